import PyProof.Rows.All
import Wide.All
import OpenK.AllK
import PyProof.P3In
import PyProof.NeData
import PyProof.Rows.TupAssign
import PyProof.DictItems
import PyProof.SetRoads
import PyProof.MeetsDict
import KE.KLam
import PyProof.AssignAttr
import PyProof.CollectIter
import PyProof.EnumIter
import PyProof.CallType
import PyProof.StrCalls
import KE.KStar
import PyProof.StationsW
import PyProof.Rows.Catch
import PyProof.Rows.RuleB_and
import PyProof.FitsReplace
import PyProof.TupleOps
import Open.Pieces
import PyProof.Rows.SetFrom
import PyProof.DefX
import Lean
import PySem.Challenge.RW_in0023_01
set_option Elab.async false
set_option linter.all false
set_option maxRecDepth 100000
set_option maxHeartbeats 4000000
namespace Mine
open PySem PySem.W PySem.Calls PyProof.Rows
theorem ft' {P:Prop} (h:false=true):P:=nomatch h
noncomputable def notStar:Expr→Bool
 | .Starred ..=>false
 | _=>true
theorem nm {α:Type} {P:α→Prop}:∀ x,x∈([]:List α)→P x:=fun _ h=>nomatch h
theorem nk {α β:Type} [BEq α] {P:α→β→Prop} (x:α) (v:β) (h:List.lookup x ([]:List (α × β))=some v):P x v:=nomatch h
theorem ns {e:Expr} (h:notStar e=true):∀ x p,e≠.Starred x p:=fun x p q=>ft' (by rw [q] at h;exact h)
theorem nc {o:Option NameKind} {P:Prop} (h:o=some .local) (q:o=some .cell):P:=NameKind.noConfusion (Option.some.inj (h.symm.trans q))
theorem xA  {p1:Prop} {p2:Prop} {G:Prop} (h:p1∧p2) (k:p1→p2→G):G:=by obtain ⟨h1,h2⟩:=h;exact k h1 h2
theorem xE {α1:Sort _} {p1:α1→Prop} {G:Prop} (h:∃ a1,p1 a1) (k:∀ a1,p1 a1→G):G:=by obtain ⟨a1,h1⟩:=h;exact k a1 h1
theorem xAA  {p1:Prop} {p2:Prop} {p3:Prop} {G:Prop} (h:p1∧p2∧p3) (k:p1→p2→p3→G):G:=by obtain ⟨h1,h2,h3⟩:=h;exact k h1 h2 h3
theorem xEA {α1:Sort _} {p1:α1→Prop} {p2:α1→Prop} {G:Prop} (h:∃ a1,p1 a1∧p2 a1) (k:∀ a1,p1 a1→p2 a1→G):G:=by obtain ⟨a1,h1,h2⟩:=h;exact k a1 h1 h2
theorem xEE {α1:Sort _} {α2:Sort _} {p1:α1→α2→Prop} {G:Prop} (h:∃ a1,∃ a2,p1 a1 a2) (k:∀ a1,∀ a2,p1 a1 a2→G):G:=by obtain ⟨a1,a2,h1⟩:=h;exact k a1 a2 h1
theorem xAAA  {p1:Prop} {p2:Prop} {p3:Prop} {p4:Prop} {G:Prop} (h:p1∧p2∧p3∧p4) (k:p1→p2→p3→p4→G):G:=xA h fun h1 r=>xAA r (k h1)
theorem xAEA {α1:Sort _} {p1:Prop} {p2:α1→Prop} {p3:α1→Prop} {G:Prop} (h:p1∧∃ a1,p2 a1∧p3 a1) (k:p1→∀ a1,p2 a1→p3 a1→G):G:=xA h fun h1 r=>xEA r (k h1)
theorem xEAA {α1:Sort _} {p1:α1→Prop} {p2:α1→Prop} {p3:α1→Prop} {G:Prop} (h:∃ a1,p1 a1∧p2 a1∧p3 a1) (k:∀ a1,p1 a1→p2 a1→p3 a1→G):G:=xE h fun a1 r=>xAA r (k a1)
theorem xEEA {α1:Sort _} {α2:Sort _} {p1:α1→α2→Prop} {p2:α1→α2→Prop} {G:Prop} (h:∃ a1,∃ a2,p1 a1 a2∧p2 a1 a2) (k:∀ a1,∀ a2,p1 a1 a2→p2 a1 a2→G):G:=xE h fun a1 r=>xEA r (k a1)
theorem xEEE {α1:Sort _} {α2:Sort _} {α3:Sort _} {p1:α1→α2→α3→Prop} {G:Prop} (h:∃ a1,∃ a2,∃ a3,p1 a1 a2 a3) (k:∀ a1,∀ a2,∀ a3,p1 a1 a2 a3→G):G:=xE h fun a1 r=>xEE r (k a1)
theorem xAAAA  {p1:Prop} {p2:Prop} {p3:Prop} {p4:Prop} {p5:Prop} {G:Prop} (h:p1∧p2∧p3∧p4∧p5) (k:p1→p2→p3→p4→p5→G):G:=xA h fun h1 r=>xAAA r (k h1)
theorem xAEEA {α1:Sort _} {α2:Sort _} {p1:Prop} {p2:α1→α2→Prop} {p3:α1→α2→Prop} {G:Prop} (h:p1∧∃ a1,∃ a2,p2 a1 a2∧p3 a1 a2) (k:p1→∀ a1,∀ a2,p2 a1 a2→p3 a1 a2→G):G:=xA h fun h1 r=>xEEA r (k h1)
theorem xEAAA {α1:Sort _} {p1:α1→Prop} {p2:α1→Prop} {p3:α1→Prop} {p4:α1→Prop} {G:Prop} (h:∃ a1,p1 a1∧p2 a1∧p3 a1∧p4 a1) (k:∀ a1,p1 a1→p2 a1→p3 a1→p4 a1→G):G:=xE h fun a1 r=>xAAA r (k a1)
theorem xEEAA {α1:Sort _} {α2:Sort _} {p1:α1→α2→Prop} {p2:α1→α2→Prop} {p3:α1→α2→Prop} {G:Prop} (h:∃ a1,∃ a2,p1 a1 a2∧p2 a1 a2∧p3 a1 a2) (k:∀ a1,∀ a2,p1 a1 a2→p2 a1 a2→p3 a1 a2→G):G:=xE h fun a1 r=>xEAA r (k a1)
theorem xEEEA {α1:Sort _} {α2:Sort _} {α3:Sort _} {p1:α1→α2→α3→Prop} {p2:α1→α2→α3→Prop} {G:Prop} (h:∃ a1,∃ a2,∃ a3,p1 a1 a2 a3∧p2 a1 a2 a3) (k:∀ a1,∀ a2,∀ a3,p1 a1 a2 a3→p2 a1 a2 a3→G):G:=xE h fun a1 r=>xEEA r (k a1)
theorem xEEEE {α1:Sort _} {α2:Sort _} {α3:Sort _} {α4:Sort _} {p1:α1→α2→α3→α4→Prop} {G:Prop} (h:∃ a1,∃ a2,∃ a3,∃ a4,p1 a1 a2 a3 a4) (k:∀ a1,∀ a2,∀ a3,∀ a4,p1 a1 a2 a3 a4→G):G:=xE h fun a1 r=>xEEE r (k a1)
theorem xAEAEA {α1:Sort _} {α2:Sort _} {p1:Prop} {p2:α1→Prop} {p3:α1→α2→Prop} {p4:α1→α2→Prop} {G:Prop} (h:p1∧∃ a1,p2 a1∧∃ a2,p3 a1 a2∧p4 a1 a2) (k:p1→∀ a1,p2 a1→∀ a2,p3 a1 a2→p4 a1 a2→G):G:=xAEA h fun h1 a1 h2 r=>xEA r (k h1 a1 h2)
theorem xAEEAA {α1:Sort _} {α2:Sort _} {p1:Prop} {p2:α1→α2→Prop} {p3:α1→α2→Prop} {p4:α1→α2→Prop} {G:Prop} (h:p1∧∃ a1,∃ a2,p2 a1 a2∧p3 a1 a2∧p4 a1 a2) (k:p1→∀ a1,∀ a2,p2 a1 a2→p3 a1 a2→p4 a1 a2→G):G:=xA h fun h1 r=>xEEAA r (k h1)
theorem xEEAAA {α1:Sort _} {α2:Sort _} {p1:α1→α2→Prop} {p2:α1→α2→Prop} {p3:α1→α2→Prop} {p4:α1→α2→Prop} {G:Prop} (h:∃ a1,∃ a2,p1 a1 a2∧p2 a1 a2∧p3 a1 a2∧p4 a1 a2) (k:∀ a1,∀ a2,p1 a1 a2→p2 a1 a2→p3 a1 a2→p4 a1 a2→G):G:=xE h fun a1 r=>xEAAA r (k a1)
theorem xEEEAA {α1:Sort _} {α2:Sort _} {α3:Sort _} {p1:α1→α2→α3→Prop} {p2:α1→α2→α3→Prop} {p3:α1→α2→α3→Prop} {G:Prop} (h:∃ a1,∃ a2,∃ a3,p1 a1 a2 a3∧p2 a1 a2 a3∧p3 a1 a2 a3) (k:∀ a1,∀ a2,∀ a3,p1 a1 a2 a3→p2 a1 a2 a3→p3 a1 a2 a3→G):G:=xE h fun a1 r=>xEEAA r (k a1)
theorem xEEEEA {α1:Sort _} {α2:Sort _} {α3:Sort _} {α4:Sort _} {p1:α1→α2→α3→α4→Prop} {p2:α1→α2→α3→α4→Prop} {G:Prop} (h:∃ a1,∃ a2,∃ a3,∃ a4,p1 a1 a2 a3 a4∧p2 a1 a2 a3 a4) (k:∀ a1,∀ a2,∀ a3,∀ a4,p1 a1 a2 a3 a4→p2 a1 a2 a3 a4→G):G:=xE h fun a1 r=>xEEEA r (k a1)
theorem xAAEEEA {α1:Sort _} {α2:Sort _} {α3:Sort _} {p1:Prop} {p2:Prop} {p3:α1→α2→α3→Prop} {p4:α1→α2→α3→Prop} {G:Prop} (h:p1∧p2∧∃ a1,∃ a2,∃ a3,p3 a1 a2 a3∧p4 a1 a2 a3) (k:p1→p2→∀ a1,∀ a2,∀ a3,p3 a1 a2 a3→p4 a1 a2 a3→G):G:=xAA h fun h1 h2 r=>xEEEA r (k h1 h2)
theorem xEEEAAA {α1:Sort _} {α2:Sort _} {α3:Sort _} {p1:α1→α2→α3→Prop} {p2:α1→α2→α3→Prop} {p3:α1→α2→α3→Prop} {p4:α1→α2→α3→Prop} {G:Prop} (h:∃ a1,∃ a2,∃ a3,p1 a1 a2 a3∧p2 a1 a2 a3∧p3 a1 a2 a3∧p4 a1 a2 a3) (k:∀ a1,∀ a2,∀ a3,p1 a1 a2 a3→p2 a1 a2 a3→p3 a1 a2 a3→p4 a1 a2 a3→G):G:=xE h fun a1 r=>xEEAAA r (k a1)
theorem xAEEAAAA {α1:Sort _} {α2:Sort _} {p1:Prop} {p2:α1→α2→Prop} {p3:α1→α2→Prop} {p4:α1→α2→Prop} {p5:α1→α2→Prop} {p6:α1→α2→Prop} {G:Prop} (h:p1∧∃ a1,∃ a2,p2 a1 a2∧p3 a1 a2∧p4 a1 a2∧p5 a1 a2∧p6 a1 a2) (k:p1→∀ a1,∀ a2,p2 a1 a2→p3 a1 a2→p4 a1 a2→p5 a1 a2→p6 a1 a2→G):G:=xAEEA h fun h1 a1 a2 h2 r=>xAAA r (k h1 a1 a2 h2)
theorem xEEEEAAA {α1:Sort _} {α2:Sort _} {α3:Sort _} {α4:Sort _} {p1:α1→α2→α3→α4→Prop} {p2:α1→α2→α3→α4→Prop} {p3:α1→α2→α3→α4→Prop} {p4:α1→α2→α3→α4→Prop} {G:Prop} (h:∃ a1,∃ a2,∃ a3,∃ a4,p1 a1 a2 a3 a4∧p2 a1 a2 a3 a4∧p3 a1 a2 a3 a4∧p4 a1 a2 a3 a4) (k:∀ a1,∀ a2,∀ a3,∀ a4,p1 a1 a2 a3 a4→p2 a1 a2 a3 a4→p3 a1 a2 a3 a4→p4 a1 a2 a3 a4→G):G:=xE h fun a1 r=>xEEEAAA r (k a1)
theorem xAEEEEAAA {α1:Sort _} {α2:Sort _} {α3:Sort _} {α4:Sort _} {p1:Prop} {p2:α1→α2→α3→α4→Prop} {p3:α1→α2→α3→α4→Prop} {p4:α1→α2→α3→α4→Prop} {p5:α1→α2→α3→α4→Prop} {G:Prop} (h:p1∧∃ a1,∃ a2,∃ a3,∃ a4,p2 a1 a2 a3 a4∧p3 a1 a2 a3 a4∧p4 a1 a2 a3 a4∧p5 a1 a2 a3 a4) (k:p1→∀ a1,∀ a2,∀ a3,∀ a4,p2 a1 a2 a3 a4→p3 a1 a2 a3 a4→p4 a1 a2 a3 a4→p5 a1 a2 a3 a4→G):G:=xA h fun h1 r=>xEEEEAAA r (k h1)
theorem xEEAAAAAA {α1:Sort _} {α2:Sort _} {p1:α1→α2→Prop} {p2:α1→α2→Prop} {p3:α1→α2→Prop} {p4:α1→α2→Prop} {p5:α1→α2→Prop} {p6:α1→α2→Prop} {p7:α1→α2→Prop} {G:Prop} (h:∃ a1,∃ a2,p1 a1 a2∧p2 a1 a2∧p3 a1 a2∧p4 a1 a2∧p5 a1 a2∧p6 a1 a2∧p7 a1 a2) (k:∀ a1,∀ a2,p1 a1 a2→p2 a1 a2→p3 a1 a2→p4 a1 a2→p5 a1 a2→p6 a1 a2→p7 a1 a2→G):G:=xEEAA h fun a1 a2 h1 h2 r=>xAAAA r (k a1 a2 h1 h2)
theorem xEEEAAAAA {α1:Sort _} {α2:Sort _} {α3:Sort _} {p1:α1→α2→α3→Prop} {p2:α1→α2→α3→Prop} {p3:α1→α2→α3→Prop} {p4:α1→α2→α3→Prop} {p5:α1→α2→α3→Prop} {p6:α1→α2→α3→Prop} {G:Prop} (h:∃ a1,∃ a2,∃ a3,p1 a1 a2 a3∧p2 a1 a2 a3∧p3 a1 a2 a3∧p4 a1 a2 a3∧p5 a1 a2 a3∧p6 a1 a2 a3) (k:∀ a1,∀ a2,∀ a3,p1 a1 a2 a3→p2 a1 a2 a3→p3 a1 a2 a3→p4 a1 a2 a3→p5 a1 a2 a3→p6 a1 a2 a3→G):G:=xEEEA h fun a1 a2 a3 h1 r=>xAAAA r (k a1 a2 a3 h1)
theorem xAAEEEEAAA {α1:Sort _} {α2:Sort _} {α3:Sort _} {α4:Sort _} {p1:Prop} {p2:Prop} {p3:α1→α2→α3→α4→Prop} {p4:α1→α2→α3→α4→Prop} {p5:α1→α2→α3→α4→Prop} {p6:α1→α2→α3→α4→Prop} {G:Prop} (h:p1∧p2∧∃ a1,∃ a2,∃ a3,∃ a4,p3 a1 a2 a3 a4∧p4 a1 a2 a3 a4∧p5 a1 a2 a3 a4∧p6 a1 a2 a3 a4) (k:p1→p2→∀ a1,∀ a2,∀ a3,∀ a4,p3 a1 a2 a3 a4→p4 a1 a2 a3 a4→p5 a1 a2 a3 a4→p6 a1 a2 a3 a4→G):G:=xA h fun h1 r=>xAEEEEAAA r (k h1)
theorem xAEAAAAEEEA {α1:Sort _} {α2:Sort _} {α3:Sort _} {α4:Sort _} {p1:Prop} {p2:α1→Prop} {p3:α1→Prop} {p4:α1→Prop} {p5:α1→Prop} {p6:α1→α2→α3→α4→Prop} {p7:α1→α2→α3→α4→Prop} {G:Prop} (h:p1∧∃ a1,p2 a1∧p3 a1∧p4 a1∧p5 a1∧∃ a2,∃ a3,∃ a4,p6 a1 a2 a3 a4∧p7 a1 a2 a3 a4) (k:p1→∀ a1,p2 a1→p3 a1→p4 a1→p5 a1→∀ a2,∀ a3,∀ a4,p6 a1 a2 a3 a4→p7 a1 a2 a3 a4→G):G:=by obtain ⟨h1,a1,h2,h3,h4,h5,a2,a3,a4,h6,h7⟩:=h;exact k h1 a1 h2 h3 h4 h5 a2 a3 a4 h6 h7
theorem xAEEEAAAAEEA {α1:Sort _} {α2:Sort _} {α3:Sort _} {α4:Sort _} {α5:Sort _} {p1:Prop} {p2:α1→α2→α3→Prop} {p3:α1→α2→α3→Prop} {p4:α1→α2→α3→Prop} {p5:α1→α2→α3→Prop} {p6:α1→α2→α3→α4→α5→Prop} {p7:α1→α2→α3→α4→α5→Prop} {G:Prop} (h:p1∧∃ a1,∃ a2,∃ a3,p2 a1 a2 a3∧p3 a1 a2 a3∧p4 a1 a2 a3∧p5 a1 a2 a3∧∃ a4,∃ a5,p6 a1 a2 a3 a4 a5∧p7 a1 a2 a3 a4 a5) (k:p1→∀ a1,∀ a2,∀ a3,p2 a1 a2 a3→p3 a1 a2 a3→p4 a1 a2 a3→p5 a1 a2 a3→∀ a4,∀ a5,p6 a1 a2 a3 a4 a5→p7 a1 a2 a3 a4 a5→G):G:=by obtain ⟨h1,a1,a2,a3,h2,h3,h4,h5,a4,a5,h6,h7⟩:=h;exact k h1 a1 a2 a3 h2 h3 h4 h5 a4 a5 h6 h7
theorem xAEEEEAAAAAAA {α1:Sort _} {α2:Sort _} {α3:Sort _} {α4:Sort _} {p1:Prop} {p2:α1→α2→α3→α4→Prop} {p3:α1→α2→α3→α4→Prop} {p4:α1→α2→α3→α4→Prop} {p5:α1→α2→α3→α4→Prop} {p6:α1→α2→α3→α4→Prop} {p7:α1→α2→α3→α4→Prop} {p8:α1→α2→α3→α4→Prop} {p9:α1→α2→α3→α4→Prop} {G:Prop} (h:p1∧∃ a1,∃ a2,∃ a3,∃ a4,p2 a1 a2 a3 a4∧p3 a1 a2 a3 a4∧p4 a1 a2 a3 a4∧p5 a1 a2 a3 a4∧p6 a1 a2 a3 a4∧p7 a1 a2 a3 a4∧p8 a1 a2 a3 a4∧p9 a1 a2 a3 a4) (k:p1→∀ a1,∀ a2,∀ a3,∀ a4,p2 a1 a2 a3 a4→p3 a1 a2 a3 a4→p4 a1 a2 a3 a4→p5 a1 a2 a3 a4→p6 a1 a2 a3 a4→p7 a1 a2 a3 a4→p8 a1 a2 a3 a4→p9 a1 a2 a3 a4→G):G:=xAEEEEAAA h fun h1 a1 a2 a3 a4 h2 h3 h4 r=>xAAAA r (k h1 a1 a2 a3 a4 h2 h3 h4)
section
variable {α β:Type} {l m:List α} {x x0 x1 x2 x3 y:α}
theorem at0:(l++x :: m)[l.length]?=some x:=by simp
theorem at1:(l++x0 :: x :: m)[l.length + 1]?=some x:=by simp
theorem set0:(l++x :: m).set l.length y=l++y :: m:=by simp
theorem getMid {d:α}:(l++[x]++m).getD l.length d=x:=by simp
theorem takeMid:(l++[x]++m).take l.length=l:=by simp
theorem lenS:(l++[x]).length=l.length + 1:=by simp
theorem leS:(l++[x]).length≤l.length + 1:=Nat.le_of_eq lenS
theorem map2 {γ:Type} {f:α→β} {g:β→γ}:(l.map f).map g=l.map fun x=>g (f x):=List.map_map
theorem snocMem:x∈l++[x]:=List.mem_append_right _ (.head _)
theorem mapGetD {f:α→β} {d:α} {i:Nat} (h:i < l.length):(l.map f)[i]?=some (f (l.getD i d)):=by simp [h]
theorem getDlt {d:α} {i:Nat} (h:i < l.length):l.getD i d=l[i]:=by simp [h]
theorem ltS {a b:Nat} (h:a < b):a < b + 1:=Nat.lt_succ_of_lt h
theorem ltA {a b c:Nat} (h:a < b):a < b + c:=Nat.lt_of_lt_of_le h (Nat.le_add_right _ _)
theorem neL {a b:Nat} (h:a < b):a≠b:=Nat.ne_of_lt h
theorem neG {a b:Nat} (h:a < b):b≠a:=(Nat.ne_of_lt h).symm
theorem neLS {a b:Nat} (h:a < b):a≠b + 1:=fun e=>by subst e;exact Nat.lt_irrefl _ (Nat.lt_of_succ_lt h)
theorem noL {a b:Nat} (h:a < b) (k:b≤a) {P:Prop}:P:=absurd h (Nat.not_lt.mpr k)
theorem noLL {a b:Nat} (h:a < b) (k:b < a) {P:Prop}:P:=absurd h (Nat.not_lt.mpr (Nat.le_of_lt k))
end
noncomputable abbrev prog:Program:=PySem.Challenge.pw_in0023_01
inductive V where
 | none
 | bool (b:Bool)
 | int (i:Int)
 | str (x:Str)
 | tup2 (a b:V)
 | tup4 (a b c d:V)
 | ref (n:Nat)
 | lit (v:Value)
 deriving Inhabited
inductive MObj where
 | list (l:List V)
 | fdd (nodes:Bool) (es:List (V × V)) (frozen:Option Nat)
 | pair (a b:V)
 | cel (self:Nat)
 deriving Inhabited
noncomputable abbrev St:=List MObj
noncomputable abbrev Mu:=List (Addr × Addr)
noncomputable abbrev Loc:=List (Str × V)
noncomputable def muts (μ:Mu):List Addr:=μ.map (·.1)++μ.map (·.2)
noncomputable def tupOf (vs:Array Value) (n:Nat):Obj:={ cls:=.type "tuple",data:=.seq vs n }
noncomputable def pairOf (C:Addr) (d:Option Addr) (a b:Value) (n:Nat):Obj:={ cls:=.ref C,dict:=d,data:=.seq #[a,b] n }
inductive RV (C:Addr) (μ:Mu) (h:Heap):V→Value→Prop
 | none:RV C μ h .none .none
 | bool (b:Bool):RV C μ h (.bool b) (.bool b)
 | int (i:Int) (t:Tok):RV C μ h (.int i) (.int i t)
 | str (x:Str) (t:Tok):RV C μ h (.str x) (.str x t)
 | tup2 {a b:V} {ad:Addr} {x y:Value} {n:Nat}:h.get? ad=some (tupOf #[x,y] n)→RV C μ h a x→RV C μ h b y→RV C μ h (.tup2 a b) (.ref ad)
 | tup4 {a b c d:V} {ad:Addr} {x y z u:Value} {n:Nat}:h.get? ad=some (tupOf #[x,y,z,u] n)→RV C μ h a x→RV C μ h b y→RV C μ h c z→RV C μ h d u→RV C μ h (.tup4 a b c d) (.ref ad)
 | ref {n:Nat} {ad d:Addr}:μ[n]?=some (ad,d)→RV C μ h (.ref n) (.ref ad)
 | lit (v:Value):RV C μ h (.lit v) v
theorem nsome {α:Type} {a:α} {P:Prop} (h:(none:Option α)=some a):P:=nomatch h
theorem somen {α:Type} {a:α} {P:Prop} (h:some a=none):P:=nomatch h
theorem tf {P:Prop} (h:true=false):P:=nomatch h
theorem ft {P:Prop} (h:false=true):P:=nomatch h
noncomputable def notLit:V→Bool
 | .lit _=>false
 | _=>true
theorem nl {v:V} (h:notLit v=true) (x:Value) (q:v=.lit x):False:=by rw [q] at h;exact ft h
theorem memnil {α:Type} {a:α} {P:Prop} (h:a∈([]:List α)):P:=nomatch h
theorem RV.noneE {C:Addr} {μ:Mu} {h:Heap} {x:Value} (r:RV C μ h .none x):x=.none:=by cases r with | none=>rfl
theorem RV.boolE {C:Addr} {μ:Mu} {h:Heap} {b:Bool} {x:Value} (r:RV C μ h (.bool b) x):x=.bool b:=by cases r with | bool _=>rfl
theorem RV.litE {C:Addr} {μ:Mu} {h:Heap} {v x:Value} (r:RV C μ h (.lit v) x):x=v:=by cases r with | lit _=>rfl
theorem RV.refE {C:Addr} {μ:Mu} {h:Heap} {n:Nat} {x:Value} (r:RV C μ h (.ref n) x):∃ a d,x=.ref a∧μ[n]?=some (a,d):=by cases r with | ref e=>exact ⟨_,_,rfl,e⟩
theorem RV.strE {C:Addr} {μ:Mu} {h:Heap} {i:Str} {x:Value} (r:RV C μ h (.str i) x):∃ t,x=.str i t:=by cases r with | str _ t=>exact ⟨t,rfl⟩
theorem RV.intE {C:Addr} {μ:Mu} {h:Heap} {i:Int} {x:Value} (r:RV C μ h (.int i) x):∃ t,x=.int i t:=by cases r with | int _ t=>exact ⟨t,rfl⟩
@[elab_as_elim] theorem RV.none_ {C:Addr} {μ:Mu} {h:Heap} {x:Value} {P:Value→Prop} (r:RV C μ h .none x) (k:P .none):P x:=by cases r with | none=>exact k
@[elab_as_elim] theorem RV.bool_ {C:Addr} {μ:Mu} {h:Heap} {b:Bool} {x:Value} {P:Value→Prop} (r:RV C μ h (.bool b) x) (k:P (.bool b)):P x:=by cases r with | bool _=>exact k
@[elab_as_elim] theorem RV.int_ {C:Addr} {μ:Mu} {h:Heap} {i:Int} {x:Value} {P:Value→Prop} (r:RV C μ h (.int i) x) (k:∀ t,P (.int i t)):P x:=by cases r with | int _ t=>exact k t
@[elab_as_elim] theorem RV.str_ {C:Addr} {μ:Mu} {h:Heap} {i:Str} {x:Value} {P:Value→Prop} (r:RV C μ h (.str i) x) (k:∀ t,P (.str i t)):P x:=by cases r with | str _ t=>exact k t
@[elab_as_elim] theorem RV.ref_ {C:Addr} {μ:Mu} {h:Heap} {n:Nat} {x:Value} {P:Value→Prop} (r:RV C μ h (.ref n) x) (k:∀ a d,μ[n]?=some (a,d)→P (.ref a)):P x:=by cases r with | ref e=>exact k _ _ e
@[elab_as_elim] theorem RV.lit_ {C:Addr} {μ:Mu} {h:Heap} {v x:Value} {P:Value→Prop} (r:RV C μ h (.lit v) x) (k:P v):P x:=by cases r with | lit _=>exact k
@[elab_as_elim] theorem RV.tup2_ {C:Addr} {μ:Mu} {h:Heap} {a b:V} {v:Value} {P:Value→Prop} (r:RV C μ h (.tup2 a b) v) (k:∀ ad x y n,h.get? ad=some (tupOf #[x,y] n)→RV C μ h a x→RV C μ h b y→P (.ref ad)):P v:=by
 cases r with | tup2 e ra rb=>exact k _ _ _ _ e ra rb
@[elab_as_elim] theorem RV.tup4_ {C:Addr} {μ:Mu} {h:Heap} {a b c d:V} {v:Value} {P:Value→Prop} (r:RV C μ h (.tup4 a b c d) v) (k:∀ ad x y z u n,h.get? ad=some (tupOf #[x,y,z,u] n)→RV C μ h a x→RV C μ h b y→RV C μ h c z→RV C μ h d u→P (.ref ad)):P v:=by
 cases r with | tup4 e ra rb rc rd=>exact k _ _ _ _ _ _ e ra rb rc rd
noncomputable def Kept (h':Heap) (a:Addr) (o:Obj):Prop:=h'.get? a=some o∨((∃ es n,o.data=.dict es n)∧∃ sl,h'.get? a=some { o with slots:=sl })
theorem Kept.data {h':Heap} {a:Addr} {o:Obj} (k:Kept h' a o):∃ o',h'.get? a=some o'∧o'.data=o.data:=by
 rcases k with k | ⟨_,sl,k⟩
 ·exact ⟨_,k,rfl⟩
 ·exact ⟨_,k,rfl⟩
theorem Kept.exact {h':Heap} {a:Addr} {o:Obj} (k:Kept h' a o) (hc:∀ es n,o.data≠.dict es n):h'.get? a=some o:=by
 rcases k with k | ⟨⟨es,n,e⟩,_⟩
 ·exact k
 ·exact absurd e (hc es n)
theorem Kept.ns {h h':Heap} {a:Addr} {m:Str→Option Value} (k:∀ o,h.get? a=some o→Kept h' a o) (hn:h.Ns a m):h'.Ns a m:=by
 refine xEEEAA hn fun o es ep ho hd q=>?_
 refine xEA ((k o ho).data) fun o' e d=>?_
 exact ⟨o',es,ep,e,d.trans hd,q⟩
theorem Kept.cell {h h':Heap} {a:Addr} {v:Option Value} (k:∀ o,h.get? a=some o→Kept h' a o) (hn:h.IsCell a v):h'.IsCell a v:=by
 refine xEA hn fun o ho hd=>?_
 refine xEA ((k o ho).data) fun o' e d=>?_
 exact ⟨o',e,d.trans hd⟩
structure Step (tabs X:List Addr) (μ:Mu) (h:Heap) (μ':Mu) (h':Heap):Prop where
 ext:∃ more:Mu,μ'=μ++more∧∀ p∈more,h.objs.size≤p.1∧h.objs.size≤p.2
 size:h.objs.size≤h'.objs.size
 keep:∀ a o,h.get? a=some o→a∉X→a∉muts μ→a∉tabs→Kept h' a o
theorem mem_muts_append {μ more:Mu} {a:Addr}:a∈muts (μ++more) ↔ a∈muts μ∨a∈muts more:=by
 simp only [muts,List.map_append,List.mem_append]
 constructor
 ·rintro ((h | h) | (h | h)) <;> simp [h]
 ·rintro ((h | h) | (h | h)) <;> simp [h]
theorem muts_fresh {more:Mu} {n:Nat} (hm:∀ p∈more,n≤p.1∧n≤p.2) {a:Addr} (ha:a∈muts more):n≤a:=by
 simp only [muts,List.mem_append,List.mem_map] at ha
 rcases ha with ⟨p,hp,rfl⟩ | ⟨p,hp,rfl⟩
 ·exact (hm p hp).1
 ·exact (hm p hp).2
theorem Step.refl {tabs X:List Addr} {μ:Mu} {h:Heap}:Step tabs X μ h μ h:=⟨⟨[],by simp,by simp⟩,Nat.le_refl _,fun _ _ e _ _ _=>.inl e⟩
theorem Step.out {tabs X:List Addr} {μ μ':Mu} {h h':Heap} (S:Step tabs X μ h μ' h') {a:Addr} (ha:a < h.objs.size) (hn:a∉muts μ):a∉muts μ':=by
 refine xEA S.ext fun more q'1 hm=>?_;subst q'1
 rw [mem_muts_append]
 rintro (h1 | h1)
 ·exact hn h1
 ·exact absurd (muts_fresh hm h1) (Nat.not_le.mpr ha)
theorem Step.trans {tabs X Y:List Addr} {μ μ' μ'':Mu} {h h' h'':Heap} (S:Step tabs X μ h μ' h') (T:Step tabs Y μ' h' μ'' h'') (hY:∀ a∈Y,a∈X∨h.objs.size≤a):Step tabs X μ h μ'' h'':=by
 refine xEA S.ext fun m1 q'1 h1=>?_;subst q'1
 refine xEA T.ext fun m2 q'1 h2=>?_;subst q'1
 refine ⟨⟨m1++m2,by rw [List.append_assoc],fun p hp=>?_⟩,Nat.le_trans S.size T.size,fun a o e hx hm ht=>?_⟩
 ·rcases List.mem_append.mp hp with hp | hp
  ·exact h1 p hp
  ·exact ⟨Nat.le_trans S.size (h2 p hp).1,Nat.le_trans S.size (h2 p hp).2⟩
 ·have lt:=Heap.lt_size e
  have aY:a∉Y:=fun q=>by
   rcases hY a q with q | q
   ·exact hx q
   ·exact absurd lt (Nat.not_lt.mpr q)
  rcases S.keep a o e hx hm ht with q | ⟨fc,sl,q⟩
  ·exact T.keep a o q aY (S.out lt hm) ht
  ·rcases T.keep a _ q aY (S.out lt hm) ht with q' | ⟨_,sl',q'⟩
   ·exact .inr ⟨fc,sl,q'⟩
   ·exact .inr ⟨fc,sl',q'⟩
theorem Step.trans0 {tabs X:List Addr} {μ μ' μ'':Mu} {h h' h'':Heap} (S:Step tabs X μ h μ' h') (T:Step tabs X μ' h' μ'' h''):Step tabs X μ h μ'' h'':=S.trans T fun _ h=>.inl h
theorem Step.weaken {tabs X Y:List Addr} {μ μ':Mu} {h h':Heap} (S:Step tabs X μ h μ' h') (hX:∀ a∈X,a∈Y∨h.objs.size≤a):Step tabs Y μ h μ' h' :=
 ⟨S.ext,S.size,fun a o e hy hm ht=>S.keep a o e (fun q=>by
  rcases hX a q with q | q
  ·exact hy q
  ·exact absurd (Heap.lt_size e) (Nat.not_lt.mpr q)) hm ht⟩
noncomputable def Fixed (o:Obj):Prop:=(o.cls=.type "tuple"∧∃ vs n,o.data=.seq vs n)∨(o.cls=.type "function"∧∃ f,o.data=.func f)∨(o.cls=.type "code"∧∃ vs,o.data=.fields vs)
theorem notFixed {o:Obj} {T:String} (e:o.cls=.type T) (h:["tuple","function","code"].contains T=false):¬ Fixed o:=fun f=>by
 rcases f with ⟨f,_⟩ | ⟨f,_⟩ | ⟨f,_⟩ <;> (have q:=e.symm.trans f;injection q with q;subst q;exact absurd h (by decide))
theorem notFixedR {o:Obj} {a:Addr} (e:o.cls=.ref a):¬ Fixed o:=fun f=>by
 rcases f with ⟨f,_⟩ | ⟨f,_⟩ | ⟨f,_⟩ <;> (have q:=e.symm.trans f;cases q)
theorem notFixedN {o:Obj} (e:o.cls=.none):¬ Fixed o:=fun f=>by
 rcases f with ⟨f,_⟩ | ⟨f,_⟩ | ⟨f,_⟩ <;> (have q:=e.symm.trans f;exact absurd q (by decide))
theorem notFixedD {o:Obj} {es:Array DictEntry} {n:Nat} (e:o.data=.dict es n):¬ Fixed o:=fun f=>by
 rcases f with ⟨_,_,_,f⟩ | ⟨_,_,f⟩ | ⟨_,_,f⟩ <;> (have q:=e.symm.trans f;cases q)
theorem notFixedC {o:Obj} {v:Option Value} (e:o.data=.cell v):¬ Fixed o:=fun f=>by
 rcases f with ⟨_,_,_,f⟩ | ⟨_,_,f⟩ | ⟨_,_,f⟩ <;> (have q:=e.symm.trans f;cases q)
theorem Fixed.notDict {o:Obj} (f:Fixed o):∀ es n,o.data≠.dict es n:=fun es n e=>by
 rcases f with ⟨_,_,_,f⟩ | ⟨_,_,f⟩ | ⟨_,_,f⟩ <;> (have q:=e.symm.trans f;cases q)
noncomputable def Loose (h:Heap) (X:List Addr):Prop:=∀ a∈X,∀ o,h.get? a=some o→¬ Fixed o
theorem RV.step {C:Addr} (hC:True) {tabs X:List Addr} {μ μ':Mu} {h h':Heap} (S:Step tabs X μ h μ' h') (lx:Loose h X) (lm:Loose h (muts μ)) (lt:Loose h tabs) {v:V} {mv:Value} (r:RV C μ h v mv):RV C μ' h' v mv:=by
 have fx:∀ a o,h.get? a=some o→Fixed o→h'.get? a=some o:=fun a o e f =>
  (S.keep a o e (fun q=>lx a q o e f) (fun q=>lm a q o e f) (fun q=>lt a q o e f)).exact f.notDict
 induction r with
 | none=>exact .none
 | bool b=>exact .bool b
 | int i t=>exact .int i t
 | str x t=>exact .str x t
 | lit v=>exact .lit v
 | tup2 e _ _ ia ib=>exact .tup2 (fx _ _ e (.inl ⟨rfl,_,_,rfl⟩)) ia ib
 | tup4 e _ _ _ _ ia ib ic id=>exact .tup4 (fx _ _ e (.inl ⟨rfl,_,_,rfl⟩)) ia ib ic id
 | ref e =>
  refine xEA S.ext fun more q'1 _=>?_;subst q'1
  exact .ref (by rw [List.getElem?_append_left (List.getElem?_eq_some_iff.mp e).1];exact e)
@[elab_as_elim] theorem len0 {α:Type} {P:List α→Prop} (h:P []):∀ xs:List α,xs.length=0→P xs
 | [],_=>h
@[elab_as_elim] theorem len1 {α:Type} {P:List α→Prop} (h:∀ a,P [a]):∀ xs:List α,xs.length=1→P xs
 | [a],_=>h a
@[elab_as_elim] theorem len2 {α:Type} {P:List α→Prop} (h:∀ a b,P [a,b]):∀ xs:List α,xs.length=2→P xs
 | [a,b],_=>h a b
@[elab_as_elim] theorem len3 {α:Type} {P:List α→Prop} (h:∀ a b c,P [a,b,c]):∀ xs:List α,xs.length=3→P xs
 | [a,b,c],_=>h a b c
noncomputable def stAt (i:Nat):Stmt:=(prog.main.body[i]?).getD (.Pass default)
noncomputable def fArgs:Stmt→Arguments
 | .FunctionDef _ a _ _ _ _ _ _ _ _=>a
 | _=>default
noncomputable def fBody:Stmt→List Stmt
 | .FunctionDef _ _ b _ _ _ _ _ _ _=>b
 | _=>[]
noncomputable def fScope:Stmt→Scope
 | .FunctionDef _ _ _ _ _ _ s _ _ _=>s
 | _=>default
noncomputable def cBody:Stmt→List Stmt
 | .ClassDef _ _ _ b _ _ _ _ _ _ _=>b
 | _=>[]
noncomputable def methAt (i j:Nat):Stmt:=((cBody (stAt i))[j]?).getD (.Pass default)
noncomputable def methOf (i j:Nat) (nm q:Str) (dV doc pm cd ct:Value) (clos:List (Str × Addr)) (an:Option Addr):FuncData :=
 {name:=nm,qualname:=q,params:=fArgs (methAt i j),body:=.stmts (fBody (methAt i j)),scope:=fScope (methAt i j),globals:=mainGlobals,closure:=clos,defaults:=dV,kwdefaults:=.none,
  doc:=doc,pyModule:=pm,annotations:=an,code:=cd,closureTuple:=ct,builtins:=builtinsNs }
noncomputable def eArgs:Expr→List Expr
 | .Call _ a _ _=>a
 | .Tuple a _ _=>a
 | _=>[]
noncomputable def sVal:Stmt→Expr
 | .Assign _ v _=>v
 | _=>default
noncomputable def lamR:Expr:=((eArgs (((eArgs (sVal (((fBody (stAt 31))[0]?).getD (.Pass default))))[1]?).getD default))[0]?).getD default
noncomputable def lamF:Expr:=sVal (((fBody (methAt 4 2))[0]?).getD (.Pass default))
noncomputable def lPos:Expr→Pos
 | .Lambda _ _ _ p=>p
 | _=>default
noncomputable def lArgs:Expr→Arguments
 | .Lambda a _ _ _=>a
 | _=>default
noncomputable def lBody:Expr→Expr
 | .Lambda _ b _ _=>b
 | _=>default
noncomputable def lScope:Expr→Scope
 | .Lambda _ _ s _=>s
 | _=>default
noncomputable def lamFd (e:Expr) (q:Str) (clos:List (Str × Addr)) (ct cd pm:Value):FuncData :=
 {name:="<lambda>",qualname:=q,params:=lArgs e,body:=.expr (lBody e),scope:=lScope e,globals:=mainGlobals,closure:=clos,defaults:=.none,kwdefaults:=.none,
  pyModule:=pm,code:=cd,closureTuple:=ct,builtins:=builtinsNs }
noncomputable def qualR:Str:="_law_read.<locals>.<lambda>"
noncomputable def qualF:Str:="FreezableDefaultDict.freeze.<locals>.<lambda>"
noncomputable def fragK (w:World):Frag:=[
 (54,⟨.type "tuple",none,.seq #[.none] 0,#[]⟩),
 (60,⟨.type "code",none,.fields #[.str ("__get__":Str) 309,.str ("_tuplegetter.__get__":Str) 310,.str ("/claim/cut.py":Str) 311,.int 12 0,.int 3 0,.int 0 0,.int 0 0,.int 3 0,.ref 55,.bool true,.int 273 0,.ref 56,.none,.ref 57,.ref 58,.ref 59,.int 315 0,.int 12 0,.str ("/claim/cut.py":Str) 316],#[]⟩),
 (61,⟨.type "function",none,.func (methOf 3 1 "__get__" "_tuplegetter.__get__" (.ref 54) (.none) (.str ("cpy313.importlib.metadata._collections":Str) 286) (.ref 60) (.none) [] (none)),#[]⟩),
 (77,⟨.type "dict",none,.dict #[⟨PyData.keyHash w.params ("__module__":Str),.str ("__module__":Str) 295,.str ("cpy313.importlib.metadata._collections":Str) 286⟩,⟨PyData.keyHash w.params ("__firstlineno__":Str),.str ("__firstlineno__":Str) 299,.int 6 298⟩,⟨PyData.keyHash w.params ("__init__":Str),.str ("__init__":Str) 308,.ref 53⟩,⟨PyData.keyHash w.params ("__get__":Str),.str ("__get__":Str) 317,.ref 61⟩,⟨PyData.keyHash w.params ("__set__":Str),.str ("__set__":Str) 326,.ref 68⟩,⟨PyData.keyHash w.params ("__delete__":Str),.str ("__delete__":Str) 334,.ref 75⟩,⟨PyData.keyHash w.params ("__static_attributes__":Str),.str ("__static_attributes__":Str) 337,.ref 76⟩,⟨PyData.keyHash w.params ("__dict__":Str),.str ("__dict__":Str) 339,.ref 79⟩,⟨PyData.keyHash w.params ("__weakref__":Str),.str ("__weakref__":Str) 341,.ref 80⟩,⟨PyData.keyHash w.params ("__doc__":Str),.str ("__doc__":Str) 342,.none⟩] 4,#[]⟩),
 (78,⟨.type "type",none,.cls ⟨("_tuplegetter":Str),[.type "object"],[.ref 78,.type "object"],77,("_tuplegetter":Str),true,[],[],false,none,false⟩,#[none,none,some (.str ("_tuplegetter":Str) 288),some (.str ("_tuplegetter":Str) 296),some (.builtin "object.__new__"),some (.bool true)]⟩),
 (86,⟨.type "cell",none,.cell (some (.ref 108)),#[]⟩),
 (91,⟨.type "tuple",none,.seq #[.ref 86] 0,#[]⟩),
 (97,⟨.type "code",none,.fields #[.str ("__missing__":Str) 360,.str ("FreezableDefaultDict.__missing__":Str) 361,.str ("/claim/cut.py":Str) 362,.int 39 0,.int 2 0,.int 0 0,.int 0 0,.int 3 0,.ref 92,.bool true,.int 273 0,.ref 93,.none,.ref 94,.ref 95,.ref 96,.int 366 0,.int 39 0,.str ("/claim/cut.py":Str) 367],#[]⟩),
 (98,⟨.type "function",none,.func (methOf 4 1 "__missing__" "FreezableDefaultDict.__missing__" (.none) (.none) (.str ("cpy313.importlib.metadata._collections":Str) 286) (.ref 97) (.ref 91) [(("__class__":Str),86)] (none)),#[]⟩),
 (104,⟨.type "code",none,.fields #[.str ("freeze":Str) 369,.str ("FreezableDefaultDict.freeze":Str) 370,.str ("/claim/cut.py":Str) 371,.int 42 0,.int 1 0,.int 0 0,.int 0 0,.int 3 0,.ref 99,.bool true,.int 273 0,.ref 100,.none,.ref 101,.ref 102,.ref 103,.int 374 0,.int 42 0,.str ("/claim/cut.py":Str) 375],#[]⟩),
 (105,⟨.type "function",none,.func (methOf 4 2 "freeze" "FreezableDefaultDict.freeze" (.none) (.none) (.str ("cpy313.importlib.metadata._collections":Str) 286) (.ref 104) (.none) [] (none)),#[]⟩),
 (107,⟨.type "dict",none,.dict #[⟨PyData.keyHash w.params ("__module__":Str),.str ("__module__":Str) 352,.str ("cpy313.importlib.metadata._collections":Str) 286⟩,⟨PyData.keyHash w.params ("__firstlineno__":Str),.str ("__firstlineno__":Str) 356,.int 24 355⟩,⟨PyData.keyHash w.params ("__doc__":Str),.str ("__doc__":Str) 358,.str ("\nOften it is desirable to prevent the mutation of\na default dict after its initial construction, such\nas to prevent mutation during iteration.\n\n>>> dd = FreezableDefaultDict(list)\n>>> dd[0].append('1')\n>>> dd.freeze()\n>>> dd[1]\n[]\n>>> len(dd)\n1\n":Str) 357⟩,⟨PyData.keyHash w.params ("__missing__":Str),.str ("__missing__":Str) 368,.ref 98⟩,⟨PyData.keyHash w.params ("freeze":Str),.str ("freeze":Str) 376,.ref 105⟩,⟨PyData.keyHash w.params ("__static_attributes__":Str),.str ("__static_attributes__":Str) 378,.ref 106⟩,⟨PyData.keyHash w.params ("__dict__":Str),.str ("__dict__":Str) 381,.ref 109⟩,⟨PyData.keyHash w.params ("__weakref__":Str),.str ("__weakref__":Str) 383,.ref 110⟩] 4,#[]⟩),
 (108,⟨.type "type",none,.cls ⟨("FreezableDefaultDict":Str),[.type "collections.defaultdict"],[.ref 108,.type "collections.defaultdict",.type "dict",.type "object"],107,("FreezableDefaultDict":Str),true,[("":Str)],[],false,none,false⟩,#[some (.ref 83),none,some (.str ("FreezableDefaultDict":Str) 345),some (.str ("FreezableDefaultDict":Str) 353),some (.builtin "dict.__new__"),some (.bool true)]⟩),
 (109,⟨.type "getset_descriptor",none,.fields #[.str ("__dict__":Str) 380,.ref 108,.builtin "function.__dict__",.builtin "function.__dict__#set"],#[]⟩),
 (129,⟨.type "code",none,.fields #[.str ("__new__":Str) 408,.str ("Pair.__new__":Str) 409,.str ("/claim/cut.py":Str) 410,.int 50 0,.int 3 0,.int 0 0,.int 0 0,.int 3 0,.ref 124,.bool true,.int 273 0,.ref 125,.none,.ref 126,.ref 127,.ref 128,.int 414 0,.int 50 0,.str ("/claim/cut.py":Str) 415],#[]⟩),
 (130,⟨.type "function",none,.func (methOf 5 4 "__new__" "Pair.__new__" (.none) (.str ("Create new instance of Pair(name, value)":Str) 416) (.str ("cpy313.importlib.metadata._collections":Str) 286) (.ref 129) (.none) [] (none)),#[]⟩),
 (171,⟨.type "dict",none,.dict #[⟨PyData.keyHash w.params ("index":Str),.str ("index":Str) 484,.int 0 478⟩,⟨PyData.keyHash w.params ("__doc__":Str),.str ("__doc__":Str) 486,.str ("Alias for field number 0":Str) 479⟩] 2,#[]⟩),
 (172,⟨.ref 78,some 171,.plain,#[]⟩),
 (174,⟨.type "dict",none,.dict #[⟨PyData.keyHash w.params ("index":Str),.str ("index":Str) 494,.int 1 488⟩,⟨PyData.keyHash w.params ("__doc__":Str),.str ("__doc__":Str) 496,.str ("Alias for field number 1":Str) 489⟩] 2,#[]⟩),
 (175,⟨.ref 78,some 174,.plain,#[]⟩),
 (179,⟨.type "dict",none,.dict #[⟨PyData.keyHash w.params ("__module__":Str),.str ("__module__":Str) 395,.str ("cpy313.importlib.metadata._collections":Str) 286⟩,⟨PyData.keyHash w.params ("__firstlineno__":Str),.str ("__firstlineno__":Str) 399,.int 44 398⟩,⟨PyData.keyHash w.params ("__doc__":Str),.str ("__doc__":Str) 401,.str ("Pair(name, value)":Str) 400⟩,⟨PyData.keyHash w.params ("__slots__":Str),.str ("__slots__":Str) 403,.ref 121⟩,⟨PyData.keyHash w.params ("_fields":Str),.str ("_fields":Str) 406,.ref 122⟩,⟨PyData.keyHash w.params ("_field_defaults":Str),.str ("_field_defaults":Str) 407,.ref 123⟩,⟨PyData.keyHash w.params ("__new__":Str),.str ("__new__":Str) 417,.ref 181⟩,⟨PyData.keyHash w.params ("_make":Str),.str ("_make":Str) 439,.ref 139⟩,⟨PyData.keyHash w.params ("_replace":Str),.str ("_replace":Str) 450,.ref 148⟩,⟨PyData.keyHash w.params ("__replace__":Str),.str ("__replace__":Str) 451,.ref 148⟩,⟨PyData.keyHash w.params ("__repr__":Str),.str ("__repr__":Str) 459,.ref 155⟩,⟨PyData.keyHash w.params ("_asdict":Str),.str ("_asdict":Str) 466,.ref 162⟩,⟨PyData.keyHash w.params ("__getnewargs__":Str),.str ("__getnewargs__":Str) 474,.ref 169⟩,⟨PyData.keyHash w.params ("__match_args__":Str),.str ("__match_args__":Str) 477,.ref 170⟩,⟨PyData.keyHash w.params ("name":Str),.str ("name":Str) 487,.ref 172⟩,⟨PyData.keyHash w.params ("value":Str),.str ("value":Str) 497,.ref 175⟩,⟨PyData.keyHash w.params ("__static_attributes__":Str),.str ("__static_attributes__":Str) 498,.ref 177⟩] 2,#[]⟩),
 (180,⟨.type "type",none,.cls ⟨("Pair":Str),[.type "tuple"],[.ref 180,.type "tuple",.type "object"],179,("Pair":Str),false,[],[.ref 203],false,none,false⟩,#[some (.ref 113),none,some (.str ("Pair":Str) 388),some (.str ("Pair":Str) 396),some (.none),some (.bool false)]⟩),
 (181,⟨.type "staticmethod",none,.fields #[.ref 130],#[]⟩),
 (196,⟨.type "code",none,.fields #[.str ("parse":Str) 515,.str ("Pair.parse":Str) 516,.str ("/claim/cut.py":Str) 517,.int 88 0,.int 2 0,.int 0 0,.int 0 0,.int 3 0,.ref 191,.bool true,.int 273 0,.ref 192,.none,.ref 193,.ref 194,.ref 195,.int 520 0,.int 88 0,.str ("/claim/cut.py":Str) 521],#[]⟩),
 (197,⟨.type "function",none,.func (methOf 6 0 "parse" "Pair.parse" (.none) (.none) (.str ("cpy313.importlib.metadata._collections":Str) 286) (.ref 196) (.none) [] ((some 200))),#[]⟩),
 (199,⟨.type "classmethod",some 198,.fields #[.ref 197,.bool false],#[]⟩),
 (202,⟨.type "dict",none,.dict #[⟨PyData.keyHash w.params ("__module__":Str),.str ("__module__":Str) 510,.str ("cpy313.importlib.metadata._collections":Str) 286⟩,⟨PyData.keyHash w.params ("__firstlineno__":Str),.str ("__firstlineno__":Str) 514,.int 86 513⟩,⟨PyData.keyHash w.params ("parse":Str),.str ("parse":Str) 534,.ref 199⟩,⟨PyData.keyHash w.params ("__static_attributes__":Str),.str ("__static_attributes__":Str) 535,.ref 201⟩,⟨PyData.keyHash w.params ("__dict__":Str),.str ("__dict__":Str) 537,.ref 204⟩,⟨PyData.keyHash w.params ("__doc__":Str),.str ("__doc__":Str) 538,.none⟩] 3,#[]⟩),
 (203,⟨.type "type",none,.cls ⟨("Pair":Str),[.ref 180],[.ref 203,.ref 180,.type "tuple",.type "object"],202,("Pair":Str),true,[],[],false,none,false⟩,#[some (.ref 184),none,some (.str ("Pair":Str) 503),some (.str ("Pair":Str) 511),some (.none),some (.bool false)]⟩),
 (204,⟨.type "getset_descriptor",none,.fields #[.str ("__dict__":Str) 536,.ref 203,.builtin "function.__dict__",.builtin "function.__dict__#set"],#[]⟩)]
inductive All2 {α β:Type} (R:α→β→Prop):List α→List β→Prop
 | nil:All2 R [] []
 | cons {a b l m}:R a b→All2 R l m→All2 R (a :: l) (b :: m)
theorem All2.unnil {α β:Type} {R:α→β→Prop} {m:List β} (h:All2 R [] m):m=[]:=by cases h;rfl
theorem All2.uncons {α β:Type} {R:α→β→Prop} {a:α} {l:List α} {m:List β} (h:All2 R (a :: l) m):∃ b m',m=b :: m'∧R a b∧All2 R l m':=by cases h with | cons x y=>exact ⟨_,_,rfl,x,y⟩
theorem All2.one {α β:Type} {R:α→β→Prop} {a:α} {m:List β} (h:All2 R [a] m):∃ x,m=[x]∧R a x:=by
 refine xEEA h.uncons fun x m' q'1 r'2=>?_;subst q'1;refine xA r'2 fun hx q=>?_;exact ⟨x,by rw [q.unnil],hx⟩
@[elab_as_elim] theorem All2.e0 {α β:Type} {R:α→β→Prop} {m:List β} {P:List β→Prop} (h:All2 R [] m) (k:P []):P m:=by rw [h.unnil];exact k
@[elab_as_elim] theorem All2.ec {α β:Type} {R:α→β→Prop} {a:α} {l:List α} {m:List β} {P:List β→Prop} (h:All2 R (a :: l) m) (k:∀ b m',R a b→All2 R l m'→P (b :: m')):P m:=by
 refine xEEA h.uncons fun b m' q'1 r'2=>?_;subst q'1;refine xA r'2 fun x y=>?_;exact k b m' x y
@[elab_as_elim] theorem All2.e1 {α β:Type} {R:α→β→Prop} {a:α} {m:List β} {P:List β→Prop} (h:All2 R [a] m) (k:∀ x,R a x→P [x]):P m:=h.ec fun x _ hx q=>q.e0 (P:=fun l=>P (x :: l)) (k x hx)
@[elab_as_elim] theorem All2.e2 {α β:Type} {R:α→β→Prop} {a b:α} {m:List β} {P:List β→Prop} (h:All2 R [a,b] m) (k:∀ x y,R a x→R b y→P [x,y]):P m:=h.ec fun x _ hx q=>q.e1 (P:=fun l=>P (x :: l)) fun y hy=>k x y hx hy
@[elab_as_elim] theorem All2.e3 {α β:Type} {R:α→β→Prop} {a b c:α} {m:List β} {P:List β→Prop} (h:All2 R [a,b,c] m) (k:∀ x y z,R a x→R b y→R c z→P [x,y,z]):P m:=h.ec fun x _ hx q=>q.e2 (P:=fun l=>P (x :: l)) fun y z hy hz=>k x y z hx hy hz
@[elab_as_elim] theorem All2.e4 {α β:Type} {R:α→β→Prop} {a b c d:α} {m:List β} {P:List β→Prop} (h:All2 R [a,b,c,d] m) (k:∀ x y z u,R a x→R b y→R c z→R d u→P [x,y,z,u]):P m:=h.ec fun x _ hx q=>q.e3 (P:=fun l=>P (x :: l)) fun y z u hy hz hu=>k x y z u hx hy hz hu
theorem All2.imp {α β:Type} {R R':α→β→Prop} (h:∀ a b,R a b→R' a b) {l:List α} {m:List β} (x:All2 R l m):All2 R' l m:=by
 induction x with
 | nil=>exact .nil
 | cons a _ ih=>exact .cons (h _ _ a) ih
theorem All2.length {α β:Type} {R:α→β→Prop} {l:List α} {m:List β} (x:All2 R l m):l.length=m.length:=by
 induction x with
 | nil=>rfl
 | cons _ _ ih=>exact congrArg (· + 1) ih
theorem All2.append {α β:Type} {R:α→β→Prop} {l l':List α} {m m':List β} (x:All2 R l m) (h:All2 R l' m'):All2 R (l++l') (m++m'):=by
 induction x with
 | nil=>exact h
 | cons a _ ih=>exact .cons a ih
theorem All2.get {α β:Type} {R:α→β→Prop} {l:List α} {m:List β} (n:Nat) {a:α} (x:All2 R l m) (e:l[n]?=some a):∃ b,m[n]?=some b∧R a b:=by
 induction x generalizing n with
 | nil=>cases n <;> exact nsome e
 | cons r _ ih=>cases n with
  | zero=>exact ⟨_,rfl,Option.some.inj e ▸ r⟩
  | succ n=>exact ih n e
noncomputable abbrev cPair:Addr:=203
noncomputable abbrev cFdd:Addr:=108
structure Adr where
 hb:Heap
 mg:Str→Option Value
 codeR:Addr
 tabR:Addr
 node:Addr
noncomputable abbrev Adr.tabs (ad:Adr):List Addr:=[ad.tabR,100]
noncomputable def Adr.lams (ad:Adr):List (Addr × Addr × Pos × Str):=[(ad.codeR,ad.tabR,lPos lamR,qualR),(104,100,lPos lamF,qualF)]
noncomputable def CodeFix (h:Heap) (c:Addr) (q:Str):Prop:=∃ o vs t,h.get? c=some o∧o.cls=.type "code"∧o.data=.fields vs∧vs[1]?=some (.str q t)
noncomputable def TabOk (h:Heap) (x:Addr × Addr × Pos × Str):Prop:=∃ ps,h.IsCode x.1 x.2.1 ps∧h.TableAt x.1 x.2.1 ps∧(codeAmong x.2.2.1 ps.toList=none∨∃ c,codeAmong x.2.2.1 ps.toList=some (.ref c)∧CodeFix h c x.2.2.2)
noncomputable abbrev Adr.n0 (ad:Adr):Nat:=ad.hb.objs.size
structure Facts (w:World) (ad:Adr):Prop where
 ns:ad.hb.Ns mainGlobals ad.mg
 nsT:mainGlobals∉ad.tabs
 bs:∀ x:Str,x≠("__name__":Str)→∃ mb,ad.hb.Ns builtinsNs mb∧mb x=bootBuiltins x
 bsT:builtinsNs∉ad.tabs
 nolimit:ad.hb.NoLimit
 nolimitT:cStatics∉ad.tabs
 nolimitO:∃ mc,ad.hb.Ns cStatics mc∧mc "thirdparty.any"=none
 nodeAt:ad.node∉ad.tabs∧∃ o fd,ad.hb.get? ad.node=some o∧o.data=.func fd
 bm:∃ bm o,ad.mg "__builtins__"=some (.ref bm)∧bm≠builtinsNs∧ad.hb.get? bm=some o∧o.cls=.type "module"∧o.dict=some builtinsNs∧o.data=.plain∧bm∉ad.tabs
 frag:(fragK w).In ad.hb
 fragT:∀ a∈ad.tabs,(fragK w).lookup a=none
structure Base (w:World) (ad:Adr) (h:Heap):Prop where
 facts:Facts w ad
 size:ad.n0≤h.objs.size
 keep:∀ a o,a∉ad.tabs→ad.hb.get? a=some o→h.get? a=some o
 tabs:∀ a∈ad.tabs,a < ad.n0∧∃ vs more,ad.hb.get? a=some { cls:=.none,data:=.fields vs }∧h.get? a=some { cls:=.none,data:=.fields (vs++more) }
 lams:∀ x∈ad.lams,TabOk h x
noncomputable def fddOf (d:Addr) (es:Array DictEntry) (n:Nat) (fac:Value):Obj:={ cls:=.ref cFdd,dict:=some d,data:=.dict es n,slots:=#[some fac] }
noncomputable def KeyIs (w:World):V→Value→Int→Prop
 | .str x,mv,hs=>(∃ t,mv=.str x t)∧hs=PyData.keyHash w.params x
 | .int i,mv,hs=>(∃ t,mv=.int i t)∧hs=hashInt i
 | _,_,_=>False
noncomputable def EntIs (w:World) (μ:Mu) (h:Heap) (p:V × V) (e:DictEntry):Prop:=KeyIs w p.1 e.key e.hash∧RV cPair μ h p.2 e.val
noncomputable def FacIs (ad:Adr) (h:Heap) (nodes:Bool) (fac:Value):Prop :=
 if nodes then fac=.ref ad.node else ∃ fl o pm c,fac=.ref fl∧h.get? fl=some o∧o.cls=.type "function"∧o.data=.func (lamFd lamR qualR [] .none (.ref c) pm)∧CodeFix h c qualR
noncomputable def FroIs (w:World) (μ:Mu) (h:Heap):Option Nat→Array DictEntry→Prop
 | none,des=>des=#[]
 | some k,des=>∃ t fl o pm c x y ct,des=#[⟨PyData.keyHash w.params ("_frozen":Str),.str ("_frozen":Str) t,.ref fl⟩]∧μ[k]?=some (x,y) ∧
   h.get? fl=some o∧o.cls=.type "function"∧o.data=.func (lamFd lamF qualF [(("self":Str),x)] ct (.ref c) pm)∧CodeFix h c qualF
noncomputable def ORel (w:World) (ad:Adr) (μ:Mu) (h:Heap) (p:Addr × Addr):MObj→Prop
 | .list l=>p.2=p.1∧∃ mvs n,h.get? p.1=some (listOf mvs n)∧All2 (RV cPair μ h) l mvs.toList
 | .fdd nodes es fr=>p.2≠p.1∧∃ ens n fac,h.get? p.1=some (fddOf p.2 ens n fac)∧All2 (EntIs w μ h) es ens.toList∧((es.map (·.1)).Nodup∧n=ens.size) ∧
   FacIs ad h nodes fac∧(∃ dn des,h.get? p.2=some { cls:=.type "dict",data:=.dict des dn }∧FroIs w μ h fr des)
 | .pair a b=>p.2≠p.1∧∃ x y n dn,h.get? p.1=some (pairOf cPair (some p.2) x y n)∧h.get? p.2=some { cls:=.type "dict",data:=.dict #[] dn }∧RV cPair μ h a x∧RV cPair μ h b y
 | .cel n=>p.2=p.1∧∃ q,μ[n]?=some q∧h.IsCell p.1 (some (.ref q.1))
structure Sim (w:World) (ad:Adr) (μ:Mu) (st:St) (h:Heap):Prop where
 base:Base w ad h
 len:μ.length=st.length
 obj:∀ (n:Nat) (p:Addr × Addr) (o:MObj),μ[n]?=some p→st[n]?=some o→ORel w ad μ h p o
 high:∀ a∈muts μ,ad.n0≤a
 apart:∀ (i j:Nat) (p q:Addr × Addr),μ[i]?=some p→μ[j]?=some q→i≠j→p.1≠q.1∧p.1≠q.2∧p.2≠q.1∧p.2≠q.2
theorem mem_muts {μ:Mu} {a:Addr}:a∈muts μ ↔ ∃ (n:Nat) (p:Addr × Addr),μ[n]?=some p∧(a=p.1∨a=p.2):=by
 simp only [muts,List.mem_append,List.mem_map]
 constructor
 ·rintro (⟨p,hp,rfl⟩ | ⟨p,hp,rfl⟩)
  ·refine xE (List.mem_iff_getElem?.mp hp) fun n hn=>?_;exact ⟨n,p,hn,.inl rfl⟩
  ·refine xE (List.mem_iff_getElem?.mp hp) fun n hn=>?_;exact ⟨n,p,hn,.inr rfl⟩
 ·rintro ⟨n,p,hn,rfl | rfl⟩
  ·exact .inl ⟨p,List.mem_of_getElem? hn,rfl⟩
  ·exact .inr ⟨p,List.mem_of_getElem? hn,rfl⟩
variable {w:World} {ad:Adr}
theorem Sim.loose {μ:Mu} {st:St} {h:Heap} (S:Sim w ad μ st h):Loose h (muts μ):=by
 intro a ha o ho
 refine xEEA (mem_muts.mp ha) fun n p hn e=>?_
 have hl:n < st.length:=S.len ▸ (List.getElem?_eq_some_iff.mp hn).1
 have R:=S.obj n p st[n] hn (List.getElem?_eq_getElem hl)
 generalize st[n]=ob at R
 cases ob with
 | list l =>
  refine xAEEA R fun e2 mvs k hg _=>?_
  have:a=p.1:=by rcases e with e | e <;> simp [e,e2]
  subst this
  rw [hg] at ho;obtain rfl:=Option.some.inj ho
  exact notFixed rfl (by decide)
 | cel k =>
  refine xAEAEA R fun e2 q _ o' hg hdat=>?_
  have:a=p.1:=by rcases e with e | e <;> simp [e,e2]
  subst this
  rw [hg] at ho;obtain rfl:=Option.some.inj ho
  exact notFixedC hdat
 | fdd nodes es fr =>
  refine xAEEEAAAAEEA R fun _ ens k fac hg _ _ _ dn des hd _=>?_
  rcases e with rfl | rfl
  ·rw [hg] at ho;obtain rfl:=Option.some.inj ho
   exact notFixedR rfl
  ·rw [hd] at ho;obtain rfl:=Option.some.inj ho
   exact notFixed rfl (by decide)
 | pair u v =>
  refine xA R fun _ r'1=>?_;refine xEEEEA r'1 fun x y k dn hg r'2=>?_;refine xA r'2 fun hd _=>?_
  rcases e with rfl | rfl
  ·rw [hg] at ho;obtain rfl:=Option.some.inj ho
   exact notFixedR rfl
  ·rw [hd] at ho;obtain rfl:=Option.some.inj ho
   exact notFixed rfl (by decide)
theorem Sim.looseT {μ:Mu} {st:St} {h:Heap} (S:Sim w ad μ st h):Loose h ad.tabs:=fun a ha o ho=>by
 refine xAEEA (S.base.tabs a ha) fun _ vs more _ e=>?_
 rw [e] at ho;obtain rfl:=Option.some.inj ho;exact notFixedN rfl
theorem RV.up {X:List Addr} {μ μ':Mu} {st:St} {h h':Heap} (S:Sim w ad μ st h) (T:Step ad.tabs X μ h μ' h') (lx:Loose h X) {v:V} {mv:Value} (r:RV cPair μ h v mv):RV cPair μ' h' v mv :=
 r.step trivial T lx S.loose S.looseT
theorem Loose.nil {h:Heap}:Loose h []:=fun _ ha=>nomatch ha
structure Frame (ad:Adr) (μ:Mu) (h:Heap) (env:Env) (loc:Loc):Prop where
 fn:env.scope.kind=.function
 gl:env.globals=mainGlobals
 bl:env.builtins=builtinsNs
 ns:∃ m,h.Ns env.locals m∧∀ x v,loc.lookup x=some v→env.kindOf x=some .local→∃ mv,m x=some mv∧RV cPair μ h v mv
 cell:∀ x v,loc.lookup x=some v→(env.kindOf x=some .cell∨env.kindOf x=some .free)→∃ c mv,env.cells.lookup x=some c∧h.IsCell c (some mv)∧RV cPair μ h v mv
 cells:∀ x c,(x,c)∈env.cells→(∃ cv,h.IsCell c cv)∧c∉muts μ∧c∉ad.tabs∧(env.func.isSome=true→env.kindOf x=some .cell→ad.n0≤c)∧c≠env.locals
 apart:env.cells.Pairwise fun x y=>x.2≠y.2
 off:env.locals∉muts μ∧env.locals∉ad.tabs∧ad.n0≤env.locals
theorem mem_lookup {β:Type}:∀ {l:List (Str × β)} {x:Str} {c:β},l.lookup x=some c→(x,c)∈l
 | (y,d) :: l,x,c,e=>by
  rw [List.lookup_cons] at e
  cases hb:x == y with
  | true=>rw [hb] at e;obtain rfl:=Option.some.inj e;rw [eq_of_beq hb];exact .head _
  | false=>rw [hb] at e;exact .tail _ (mem_lookup e)
theorem Frame.up {μ μ':Mu} {st:St} {h h':Heap} {env:Env} {loc:Loc} (F:Frame ad μ h env loc) (S:Sim w ad μ st h) (T:Step ad.tabs [] μ h μ' h'):Frame ad μ' h' env loc:=by
 have stay:∀ a o,h.get? a=some o→a∉muts μ→a∉ad.tabs→Kept h' a o:=fun a o e m t=>T.keep a o e (fun q=>nomatch q) m t
 have cellstay:∀ x c,(x,c)∈env.cells→∀ cv,h.IsCell c cv→h'.IsCell c cv:=fun x c hm cv hc=>by
  refine xAAAA (F.cells x c hm) fun _ a b _ _=>?_
  exact Kept.cell (fun o ho=>stay _ _ ho a b) hc
 refine ⟨F.fn,F.gl,F.bl,?_,fun x v e k=>?_,fun x c hm=>?_,F.apart,?_⟩
 ·refine xEA F.ns fun m hm hv=>?_
  refine ⟨m,Kept.ns (fun o ho=>stay _ _ ho F.off.1 F.off.2.1) hm,fun x v e k=>?_⟩
  refine xEA (hv x v e k) fun mv e1 r=>?_
  exact ⟨mv,e1,r.up S T Loose.nil⟩
 ·refine xEEAA (F.cell x v e k) fun c mv e1 e2 r=>?_
  exact ⟨c,mv,e1,cellstay x c (mem_lookup e1) _ e2,r.up S T Loose.nil⟩
 ·refine xAAAA (F.cells x c hm) fun z'1 a b c' d=>?_;refine xE z'1 fun cv e=>?_
  refine xEA (id e) fun o ho hd=>?_
  exact ⟨⟨cv,cellstay x c hm cv e⟩,T.out (Heap.lt_size ho) a,b,c',d⟩
 ·refine xEA F.ns fun m hm _=>?_
  exact ⟨T.out hm.lt F.off.1,F.off.2⟩
structure AOk (r:Nat) (A:Around):Prop where
 handled:A.handled=none
 frames:∃ l,A.frames=some l
 depth:A.depth + 8 * r≤990
 units:A.units + 64 * r≤9800
noncomputable def TE (w:World) (ad:Adr) (r:Nat) (env:Env) (loc:Loc) (st:St) (e:Expr) (v:V) (st':St):Prop :=
 ∀ (A:Around) (E:Value→Shared→Prop) (s:Shared) (μ:Mu) (Q:Value→Shared→Prop),AOk r A→Sim w ad μ st s.heap→Frame ad μ s.heap env loc →
  (∀ mv h' tk μ',Step ad.tabs [] μ s.heap μ' h'→Sim w ad μ' st' h'→Frame ad μ' h' env loc→RV cPair μ' h' v mv→Q mv { s with heap:=h',toks:=tk }) →
  wpAny (model prog w) A (eval e env) Q E s
section
variable {r:Nat} {env:Env} {loc:Loc} {st st' st₁ st₂:St}
theorem TE.name {x:Str} {pos:Pos} {v:V} (hl:loc.lookup x=some v) (hk:env.kindOf x=some .local∨env.kindOf x=some .cell∨env.kindOf x=some .free) (hd:(x == ("__debug__":Str))=false:=by decide) (hn:(x == ("__classdict__":Str))=false:=by decide) :
  TE w ad r env loc st (.Name x pos) v st:=by
 intro A E s μ Q hA S F h
 obtain ⟨hp,g,d,tk,os⟩:=s
 refine wpAny_Name ?_ hd
 rcases hk with hk | hk | hk
 ·refine xEA F.ns fun m hm hv=>?_
  refine xEA (hv x v hl hk) fun mv e rv=>?_
  exact wpAny_loadName_local F.fn hk hm e (h mv _ tk μ .refl S F rv)
 ·refine xEEAA (F.cell x v hl (.inl hk)) fun c mv e1 e2 rv=>?_
  exact wpAny_loadName_cell F.fn hk e1 e2 (h mv _ tk μ .refl S F rv)
 ·refine xEEAA (F.cell x v hl (.inr hk)) fun c mv e1 e2 rv=>?_
  exact wpAny_loadName_free F.fn hk e1 e2 (h mv _ tk μ .refl S F rv) hn
theorem TE.int {i:Int} {k:Nat} {pos:Pos}:TE w ad r env loc st (.Constant (.int i) k pos) (.int i) st:=by
 intro A E s μ Q hA S F h
 exact wpAny_Constant_int (h _ _ _ μ .refl S F (.int i _))
theorem TE.cstr {x:Str} {k:Nat} {pos:Pos}:TE w ad r env loc st (.Constant (.str x) k pos) (.str x) st:=by
 intro A E s μ Q hA S F h
 exact Constant_str (h _ _ _ μ .refl S F (.str x _))
theorem TE.bool {b:Bool} {k:Nat} {pos:Pos}:TE w ad r env loc st (.Constant (.bool b) k pos) (.bool b) st:=by
 intro A E s μ Q hA S F h
 exact wpAny_pure (h _ _ s.toks μ .refl S F (.bool b))
theorem TE.cnone {k:Nat} {pos:Pos}:TE w ad r env loc st (.Constant .none k pos) .none st:=by
 intro A E s μ Q hA S F h
 exact wpAny_pure (h _ _ s.toks μ .refl S F .none)
end
end Mine
namespace Mine
open PySem PySem.W PySem.Calls PyProof.Rows
variable {w : World} {ad : Adr}
noncomputable def own (env:Env):List Addr:=env.locals :: (if env.func.isSome then (env.cells.filter fun p=>env.kindOf p.1 == some .cell).map (·.2) else [])
theorem own_mem {env:Env} {a:Addr} (h:a∈own env):a=env.locals∨∃ x,(x,a)∈env.cells:=by
 unfold own at h
 rcases List.mem_cons.mp h with h | h
 ·exact .inl h
 ·split at h
  ·refine xEA (List.mem_map.mp h) fun z'1 hm q'2=>?_;obtain ⟨x,c⟩:=z'1;subst q'2
   exact .inr ⟨x,(List.mem_filter.mp hm).1⟩
  ·exact memnil h
theorem own_cell {env:Env} {x:Str} {c:Addr} (hf:env.func.isSome=true) (h:(x,c)∈env.cells) (hk:env.kindOf x=some .cell):c∈own env:=by
 unfold own
 rw [if_pos hf]
 exact .tail _ (List.mem_map.mpr ⟨_,List.mem_filter.mpr ⟨h,by simp [hk]⟩,rfl⟩)
theorem Frame.loose {μ:Mu} {h:Heap} {env:Env} {loc:Loc} (F:Frame ad μ h env loc):Loose h (own env):=by
 intro a ha o ho
 rcases own_mem ha with rfl | ⟨x,hm⟩
 ·refine xEA F.ns fun m z'1 _=>?_;refine xEEEAA z'1 fun o' es ep ho' hd _=>?_
  rw [ho'] at ho;obtain rfl:=Option.some.inj ho
  exact notFixedD hd
 ·refine xA (F.cells x a hm) fun z'1 _=>?_;refine xEEA z'1 fun cv o' ho' hd=>?_
  rw [ho'] at ho;obtain rfl:=Option.some.inj ho
  exact notFixedC hd
noncomputable def TO2 (w:World) (ad:Adr) (r:Nat) (st:St) (f:Value→Value→Sem Value) (a b v:V) (st':St):Prop :=
 ∀ (A:Around) (E:Value→Shared→Prop) (s:Shared) (μ:Mu) (x y:Value) (Q:Value→Shared→Prop),AOk r A→Sim w ad μ st s.heap→RV cPair μ s.heap a x→RV cPair μ s.heap b y →
  (∀ mv h' tk μ',Step ad.tabs [] μ s.heap μ' h'→Sim w ad μ' st' h'→RV cPair μ' h' v mv→Q mv { s with heap:=h',toks:=tk }) →
  wpAny (model prog w) A (f x y) Q E s
noncomputable def TO (w:World) (ad:Adr) (r:Nat) (st:St) (f:List Value→Sem Value) (as:List V) (v:V) (st':St):Prop :=
 ∀ (A:Around) (E:Value→Shared→Prop) (s:Shared) (μ:Mu) (xs:List Value) (Q:Value→Shared→Prop),AOk r A→Sim w ad μ st s.heap→All2 (RV cPair μ s.heap) as xs →
  (∀ mv h' tk μ',Step ad.tabs [] μ s.heap μ' h'→Sim w ad μ' st' h'→RV cPair μ' h' v mv→Q mv { s with heap:=h',toks:=tk }) →
  wpAny (model prog w) A (f xs) Q E s
noncomputable def TB (w:World) (ad:Adr) (r:Nat) (env:Env) (loc:Loc) (st:St) (t:Sem Bool) (b:Bool) (st':St):Prop :=
 ∀ (A:Around) (E:Value→Shared→Prop) (s:Shared) (μ:Mu) (Q:Bool→Shared→Prop),AOk r A→Sim w ad μ st s.heap→Frame ad μ s.heap env loc →
  (∀ h' tk μ',Step ad.tabs [] μ s.heap μ' h'→Sim w ad μ' st' h'→Frame ad μ' h' env loc→Q b { s with heap:=h',toks:=tk }) →
  wpAny (model prog w) A t Q E s
noncomputable def TL (w:World) (ad:Adr) (r:Nat) (env:Env) (loc:Loc) (st:St) (es:List Expr) (vs:List V) (st':St):Prop :=
 ∀ (pos:Pos) (A:Around) (E:Value→Shared→Prop) (s:Shared) (μ:Mu) (Q:List Value→Shared→Prop),AOk r A→Sim w ad μ st s.heap→Frame ad μ s.heap env loc →
  (∀ mvs h' tk μ',Step ad.tabs [] μ s.heap μ' h'→Sim w ad μ' st' h'→Frame ad μ' h' env loc→All2 (RV cPair μ' h') vs mvs→Q mvs { s with heap:=h',toks:=tk }) →
  wpAny (model prog w) A (spliced (backTo pos (starEach es env))) Q E s
section
variable {r:Nat} {env:Env} {loc:Loc} {st st₁ st₂ st₃:St}
theorem TL.nil:TL w ad r env loc st [] [] st:=by
 intro pos A E s μ Q hA S F h
 exact spliced_nil (h [] _ s.toks μ .refl S F .nil)
theorem star_plain {e:Expr} {rest:List Expr} {env:Env} (h:∀ x p,e≠.Starred x p):starEach (e :: rest) env=(false,eval e env) :: starEach rest env:=by
 cases e <;> first | rfl | exact absurd rfl (h _ _)
theorem TL.cons {e:Expr} {rest:List Expr} {v:V} {vs:List V} (hs:∀ x p,e≠.Starred x p) (T:TE w ad r env loc st e v st₁) (R:TL w ad r env loc st₁ rest vs st₂):TL w ad r env loc st (e :: rest) (v :: vs) st₂:=by
 intro pos A E s μ Q hA S F h
 rw [star_plain hs]
 show wpAny _ _ (spliced ((false,eval e env) :: backTo pos (starEach rest env))) _ _ _
 refine spliced_cons (T A E s μ _ hA S F fun mv h₁ tk₁ μ₁ t₁ S₁ F₁ r₁=>?_)
 refine R pos A E _ μ₁ _ hA S₁ F₁ fun mvs h₂ tk₂ μ₂ t₂ S₂ F₂ r₂=>?_
 exact h (mv :: mvs) h₂ tk₂ μ₂ (t₁.trans0 t₂) S₂ F₂ (.cons (r₁.up S₁ t₂ Loose.nil) r₂)
theorem TE.bin {l x:Expr} {op:Operator} {pos:Pos} {a b v:V} (Tl:TE w ad r env loc st l a st₁) (Tr:TE w ad r env loc st₁ x b st₂) (O:TO2 w ad r st₂ (binaryOp op) a b v st₃):TE w ad r env loc st (.BinOp l op x pos) v st₃:=by
 intro A E s μ Q hA S F h
 refine wpAny_BinOp (Tl A E s μ _ hA S F fun mv h₁ tk₁ μ₁ t₁ S₁ F₁ r₁=>?_)
 refine Tr A E _ μ₁ _ hA S₁ F₁ fun mv₂ h₂ tk₂ μ₂ t₂ S₂ F₂ r₂=>?_
 refine O A E _ μ₂ _ _ _ hA S₂ (r₁.up S₁ t₂ Loose.nil) r₂ fun mv₃ h₃ tk₃ μ₃ t₃ S₃ r₃=>?_
 exact h mv₃ h₃ tk₃ μ₃ ((t₁.trans0 t₂).trans0 t₃) S₃ (F₂.up S₂ t₃) r₃
theorem TE.cmp {l x:Expr} {op:CmpOp} {pos:Pos} {a b v:V} (Tl:TE w ad r env loc st l a st₁) (Tr:TE w ad r env loc st₁ x b st₂) (O:TO2 w ad r st₂ (compareOp op) a b v st₃) (hm:behindInMarks op x=false:=by with_unfolding_all rfl) :
  TE w ad r env loc st (.Compare l [op] [x] pos) v st₃:=by
 intro A E s μ Q hA S F h
 refine wpAny_Compare1 (Tl A E s μ _ hA S F fun mv h₁ tk₁ μ₁ t₁ S₁ F₁ r₁=>?_) hm
 refine Tr A E _ μ₁ _ hA S₁ F₁ fun mv₂ h₂ tk₂ μ₂ t₂ S₂ F₂ r₂=>?_
 refine O A E _ μ₂ _ _ _ hA S₂ (r₁.up S₁ t₂ Loose.nil) r₂ fun mv₃ h₃ tk₃ μ₃ t₃ S₃ r₃=>?_
 exact h mv₃ h₃ tk₃ μ₃ ((t₁.trans0 t₂).trans0 t₃) S₃ (F₂.up S₂ t₃) r₃
theorem truthy_bool {A:Around} {E:Value→Shared→Prop} {s:Shared} {b:Bool} {Q:Bool→Shared→Prop} (h:Q b s):wpAny (model prog w) A (truthy (.bool b)) Q E s:=wpAny_truthy_bool h
theorem TB.cmp {l x:Expr} {op:CmpOp} {pos:Pos} {a b:V} {c:Bool} {whole:Sem Value} (Tl:TE w ad r env loc st l a st₁) (Tr:TE w ad r env loc st₁ x b st₂) (O:TO2 w ad r st₂ (compareOp op) a b (.bool c) st₃) (hm:behindInMarks op x=false:=by with_unfolding_all rfl) :
  TB w ad r env loc st (isTrue (.Compare l [op] [x] pos) env whole) c st₃:=by
 intro A E s μ Q hA S F h
 refine wpAny_isTrue_Compare1 (Tl A E s μ _ hA S F fun mv h₁ tk₁ μ₁ t₁ S₁ F₁ r₁=>?_) hm
 refine Tr A E _ μ₁ _ hA S₁ F₁ fun mv₂ h₂ tk₂ μ₂ t₂ S₂ F₂ r₂=>?_
 refine O A E _ μ₂ _ _ _ hA S₂ (r₁.up S₁ t₂ Loose.nil) r₂ fun mv₃ h₃ tk₃ μ₃ t₃ S₃ r₃=>?_
 obtain rfl:=r₃.boolE
 exact truthy_bool (h h₃ tk₃ μ₃ ((t₁.trans0 t₂).trans0 t₃) S₃ (F₂.up S₂ t₃))
end
theorem CodeFix.ext {h h':Heap} {X:List Addr} (C:∀ b o,b∉X→h.get? b=some o→h'.get? b=some o) (lx:Loose h X) {c:Addr} {q:Str} (x:CodeFix h c q):CodeFix h' c q:=by
 refine xEEEAAA x fun o vs t e f g i=>?_
 exact ⟨o,vs,t,C _ _ (fun q=>lx _ q _ e (.inr (.inr ⟨f,_,g⟩))) e,f,g,i⟩
theorem isCode_at {h h':Heap} {c P:Addr} {ps:Array Value} (x:h.IsCode c P ps) (kc:∀ o,h.get? c=some o→h'.get? c=some o) (kP:∀ o,h.get? P=some o→h'.get? P=some o):h'.IsCode c P ps:=by
 refine xEEEE x fun o vs file tf r'1=>?_;refine xEEEE r'1 fun flags tg inF text r'2=>?_;refine xEEAAAAAA r'2 fun tt op a r1 r2 r3 r4 r5 r'3=>?_;refine xAA r'3 fun r6 b r=>?_
 exact ⟨o,vs,file,tf,flags,tg,inF,text,tt,op,kc _ a,r1,r2,r3,r4,r5,r6,kP _ b,r⟩
theorem TabOk.ext {h h':Heap} {X:List Addr} (C:∀ b o,b∉X→h.get? b=some o→h'.get? b=some o) (lx:Loose h X) {x:Addr × Addr × Pos × Str} (hP:x.2.1∉X) (T:TabOk h x):TabOk h' x:=by
 refine xEAA T fun ps ic ta q=>?_
 refine xA (id ta) fun z'1 e5=>?_;refine xEEAAA z'1 fun o vs e1 e2 e3 e4=>?_
 have hc:x.1∉X:=fun q=>lx _ q _ e1 (.inr (.inr ⟨e2,_,e3⟩))
 exact ⟨ps,isCode_at ic (fun o=>C _ o hc) (fun o=>C _ o hP),⟨⟨o,vs,C _ _ hc e1,e2,e3,e4⟩,C _ _ hP e5⟩,q.imp id fun ⟨c,e,f⟩=>⟨c,e,f.ext C lx⟩⟩
theorem lams_tab {x:Addr × Addr × Pos × Str} (hx:x∈ad.lams):x.2.1∈ad.tabs:=by
 simp only [Adr.lams,List.mem_cons,List.not_mem_nil,or_false] at hx
 rcases hx with rfl | rfl <;> simp [Adr.tabs]
theorem Base.ext {h h':Heap} (B:Base w ad h) {X:List Addr} (hs:h.objs.size≤h'.objs.size) (C:∀ b o,b∉X→h.get? b=some o→h'.get? b=some o) (hX:∀ a∈X,ad.n0≤a) (lx:Loose h X):Base w ad h':=by
 have off:∀ b,b < ad.n0→b∉X:=fun b lt q=>absurd lt (Nat.not_lt.mpr (hX b q))
 refine ⟨B.facts,Nat.le_trans B.size hs,fun b o t e=>C b o (off b (Heap.lt_size e)) (B.keep b o t e),fun b hb=>?_,fun x hx=>?_⟩
 ·refine xAEEA (B.tabs b hb) fun lt vs more e f=>?_
  exact ⟨lt,vs,more,e,C b _ (off b lt) f⟩
 ·exact (B.lams x hx).ext C lx (off _ (B.tabs _ (lams_tab hx)).1)
theorem Base.push {h:Heap} (B:Base w ad h) (o:Obj):Base w ad (h.push o) :=
 B.ext (X:=[]) (by rw [Heap.size_push];exact Nat.le_succ _) (fun b o' _ e=>Heap.get?_push_of_some _ e) (fun _ q=>nomatch q) Loose.nil
theorem Step.push {tabs X:List Addr} {μ:Mu} {h:Heap} (o:Obj):Step tabs X μ h μ (h.push o) :=
 ⟨⟨[],by simp,by simp⟩,by rw [Heap.size_push];exact Nat.le_succ _,fun _ _ e _ _ _=>.inl (Heap.get?_push_of_some _ e)⟩
theorem Step.pushNew {tabs X:List Addr} {μ:Mu} {h:Heap} (o:Obj):Step tabs X μ h (μ++[(h.objs.size,h.objs.size)]) (h.push o) :=
 ⟨⟨[_],rfl,by simp⟩,by rw [Heap.size_push];exact Nat.le_succ _,fun _ _ e _ _ _=>.inl (Heap.get?_push_of_some _ e)⟩
theorem muts_lt {μ:Mu} {st:St} {h:Heap} (S:Sim w ad μ st h) {a:Addr} (ha:a∈muts μ):a < h.objs.size:=by
 refine xEEA (mem_muts.mp ha) fun n p hn e=>?_
 have hl:n < st.length:=S.len ▸ (List.getElem?_eq_some_iff.mp hn).1
 have R:=S.obj n p st[n] hn (List.getElem?_eq_getElem hl)
 generalize st[n]=ob at R
 cases ob with
 | list l =>
  refine xAEEA R fun e2 mvs k hg _=>?_
  have:a=p.1:=by rcases e with e | e <;> simp [e,e2]
  subst this;exact Heap.lt_size hg
 | cel k =>
  refine xAEAEA R fun e2 q _ o' hg _=>?_
  have:a=p.1:=by rcases e with e | e <;> simp [e,e2]
  subst this;exact Heap.lt_size hg
 | fdd nodes es fr =>
  refine xAEEEAAAAEEA R fun _ ens k fac hg _ _ _ dn des hd _=>?_
  rcases e with rfl | rfl
  ·exact Heap.lt_size hg
  ·exact Heap.lt_size hd
 | pair u v =>
  refine xA R fun _ r'1=>?_;refine xEEEEA r'1 fun x y k dn hg r'2=>?_;refine xA r'2 fun hd _=>?_
  rcases e with rfl | rfl
  ·exact Heap.lt_size hg
  ·exact Heap.lt_size hd
theorem Step.fixed {X:List Addr} {μ μ':Mu} {st:St} {h h':Heap} (S:Sim w ad μ st h) (T:Step ad.tabs X μ h μ' h') (lx:Loose h X) {a:Addr} {o:Obj} (e:h.get? a=some o) (f:Fixed o):h'.get? a=some o :=
 (T.keep a o e (fun q=>lx a q o e f) (fun q=>S.loose a q o e f) (fun q=>S.looseT a q o e f)).exact f.notDict
theorem CodeFix.up {X:List Addr} {μ μ':Mu} {st:St} {h h':Heap} (S:Sim w ad μ st h) (T:Step ad.tabs X μ h μ' h') (lx:Loose h X) {c:Addr} {q:Str} (x:CodeFix h c q):CodeFix h' c q:=by
 refine xEEEAAA x fun o vs t e f g i=>?_
 exact ⟨o,vs,t,T.fixed S lx e (.inr (.inr ⟨f,_,g⟩)),f,g,i⟩
theorem FacIs.up {X:List Addr} {μ μ':Mu} {st:St} {h h':Heap} (S:Sim w ad μ st h) (T:Step ad.tabs X μ h μ' h') (lx:Loose h X) {b:Bool} {v:Value} (x:FacIs ad h b v):FacIs ad h' b v:=by
 unfold FacIs at x ⊢
 split
 ·next hb=>rw [if_pos hb] at x;exact x
 ·next hb =>
  rw [if_neg hb] at x
  refine xEEEEAAA x fun fl o pm c e1 e2 e3 r'1=>?_;refine xA r'1 fun e4 e5=>?_
  exact ⟨fl,o,pm,c,e1,T.fixed S lx e2 (.inr (.inl ⟨e3,_,e4⟩)),e3,e4,e5.up S T lx⟩
theorem FroIs.up {X:List Addr} {μ μ':Mu} {st:St} {h h':Heap} (S:Sim w ad μ st h) (T:Step ad.tabs X μ h μ' h') (lx:Loose h X) {b:Option Nat} {des:Array DictEntry} (x:FroIs w μ h b des):FroIs w μ' h' b des:=by
 cases b with
 | none=>exact x
 | some k =>
  refine xEEEE x fun t fl o pm r'1=>?_;refine xEEEEAAA r'1 fun c u y ct e1 e2 e3 r'2=>?_;refine xAA r'2 fun e4 e5 e6=>?_
  refine xEA (id T.ext) fun more q'1 _=>?_;subst q'1
  exact ⟨t,fl,o,pm,c,u,y,ct,e1,by rw [List.getElem?_append_left (List.getElem?_eq_some_iff.mp e2).1];exact e2,T.fixed S lx e3 (.inr (.inl ⟨e4,_,e5⟩)),e4,e5,e6.up S T lx⟩
theorem ORel.up {X:List Addr} {μ μ':Mu} {st:St} {h h':Heap} (S:Sim w ad μ st h) (T:Step ad.tabs X μ h μ' h') (lx:Loose h X) {p:Addr × Addr} {o:MObj}
  (k1:∀ o,h.get? p.1=some o→h'.get? p.1=some o) (k2:∀ o,h.get? p.2=some o→h'.get? p.2=some o) (R:ORel w ad μ h p o):ORel w ad μ' h' p o:=by
 cases o with
 | list l =>
  refine xAEEA R fun e2 mvs k hg hv=>?_
  exact ⟨e2,mvs,k,k1 _ hg,hv.imp fun a b r=>r.up S T lx⟩
 | fdd nodes es fr =>
  refine xAEEEAAAAEEA R fun e1 ens k fac hg he hn hf dn des hd hz=>?_
  exact ⟨e1,ens,k,fac,k1 _ hg,he.imp fun a b r=>⟨r.1,r.2.up S T lx⟩,hn,hf.up S T lx,dn,des,k2 _ hd,hz.up S T lx⟩
 | cel k =>
  refine xAEAEA R fun e2 q hq o' hg hdat=>?_
  refine xEA T.ext fun more q'1 _=>?_;subst q'1
  exact ⟨e2,q,by rw [List.getElem?_append_left (List.getElem?_eq_some_iff.mp hq).1];exact hq,o',k1 _ hg,hdat⟩
 | pair u v =>
  refine xAEEEEAAA R fun e1 x y k dn hg hd ru rv=>?_
  exact ⟨e1,x,y,k,dn,k1 _ hg,k2 _ hd,ru.up S T lx,rv.up S T lx⟩
theorem Sim.push {μ:Mu} {st:St} {h:Heap} (S:Sim w ad μ st h) (o:Obj):Sim w ad μ st (h.push o) :=
 ⟨S.base.push o,S.len,fun n p ob hn ho=>(S.obj n p ob hn ho).up S (.push o) Loose.nil (fun _ e=>Heap.get?_push_of_some _ e) (fun _ e=>Heap.get?_push_of_some _ e),S.high,S.apart⟩
theorem Sim.pushList {μ:Mu} {st:St} {h:Heap} (S:Sim w ad μ st h) {vs:List V} {mvs:List Value} (hv:All2 (RV cPair μ h) vs mvs) :
  Sim w ad (μ++[(h.objs.size,h.objs.size)]) (st++[.list vs]) (h.push (listOf mvs.toArray 0)):=by
 have T:Step ad.tabs [] μ h (μ++[(h.objs.size,h.objs.size)]) (h.push (listOf mvs.toArray 0)):=.pushNew _
 have old:∀ (n:Nat) (p:Addr × Addr),μ[n]?=some p→p.1 < h.objs.size∧p.2 < h.objs.size:=fun n p e=>⟨muts_lt S (mem_muts.mpr ⟨n,p,e,.inl rfl⟩),muts_lt S (mem_muts.mpr ⟨n,p,e,.inr rfl⟩)⟩
 refine ⟨S.base.push _,by simp [S.len],fun n p ob hn ho=>?_,fun a ha=>?_,fun i j p q hp hq hij=>?_⟩
 ·by_cases hl:n < μ.length
  ·rw [List.getElem?_append_left hl] at hn
   rw [List.getElem?_append_left (S.len ▸ hl)] at ho
   exact (S.obj n p ob hn ho).up S T Loose.nil (fun _ e=>Heap.get?_push_of_some _ e) (fun _ e=>Heap.get?_push_of_some _ e)
  ·have hn':n=μ.length:=by
    have:=(List.getElem?_eq_some_iff.mp hn).1
    simp at this;omega
   subst hn'
   rw [List.getElem?_append_right (Nat.le_refl _)] at hn
   rw [S.len,List.getElem?_append_right (Nat.le_refl _)] at ho
   simp at hn ho
   subst hn ho
   exact ⟨rfl,_,_,Heap.get?_push_size _ rfl,by simpa using hv.imp fun a b r=>r.up S T Loose.nil⟩
 ·rcases mem_muts_append.mp ha with ha | ha
  ·exact S.high a ha
  ·simp [muts] at ha;subst ha;exact S.base.size
 ·have cases_:∀ k (x:Addr × Addr),(μ++[(h.objs.size,h.objs.size)])[k]?=some x→(k < μ.length∧μ[k]?=some x)∨(k=μ.length∧x=(h.objs.size,h.objs.size)):=fun k x e=>by
   by_cases hl:k < μ.length
   ·rw [List.getElem?_append_left hl] at e;exact .inl ⟨hl,e⟩
   ·have:k=μ.length:=by have:=(List.getElem?_eq_some_iff.mp e).1;simp at this;omega
    subst this
    rw [List.getElem?_append_right (Nat.le_refl _)] at e
    simp at e;exact .inr ⟨rfl,e.symm⟩
  rcases cases_ i p hp with ⟨li,ei⟩ | ⟨li,ei⟩ <;> rcases cases_ j q hq with ⟨lj,ej⟩ | ⟨lj,ej⟩
  ·exact S.apart i j p q ei ej hij
  ·subst ej;have:=old i p ei;exact ⟨Nat.ne_of_lt this.1,Nat.ne_of_lt this.1,Nat.ne_of_lt this.2,Nat.ne_of_lt this.2⟩
  ·subst ei;have:=old j q ej;exact ⟨Nat.ne_of_gt this.1,Nat.ne_of_gt this.2,Nat.ne_of_gt this.1,Nat.ne_of_gt this.2⟩
  ·exact absurd (li.trans lj.symm) hij
theorem Step.same {tabs:List Addr} {μ:Mu} {h h':Heap} {a:Addr} (B:Heap.SameBut a h h'):Step tabs [a] μ h μ h' :=
 ⟨⟨[],by simp,by simp⟩,by rw [B.1];exact Nat.le_refl _,fun b o e hx _ _=>.inl ((B.2 b (by simpa using hx)).trans e)⟩
theorem Step.but {tabs:List Addr} {μ:Mu} {h h':Heap} {a:Addr} (hs:h.objs.size≤h'.objs.size) (C:Heap.ExtBut a h h'):Step tabs [a] μ h μ h' :=
 ⟨⟨[],by simp,by simp⟩,hs,fun b o e hx _ _=>.inl (C b o (by simpa using hx) e)⟩
theorem Base.but {h h':Heap} (B:Base w ad h) {a:Addr} (hs:h.objs.size≤h'.objs.size) (C:Heap.ExtBut a h h') (ha:ad.n0≤a) (la:Loose h [a]):Base w ad h' :=
 B.ext (X:=[a]) hs (fun b o hx e=>C b o (by simpa using hx) e) (fun b hb=>by rw [List.mem_singleton.mp hb];exact ha) la
theorem Base.same {h h':Heap} (B:Base w ad h) {a:Addr} (C:Heap.SameBut a h h') (ha:ad.n0≤a) (la:Loose h [a]):Base w ad h':=B.but (by rw [C.1];exact Nat.le_refl _) C.extBut ha la
theorem Sim.but {μ:Mu} {st:St} {h h':Heap} (S:Sim w ad μ st h) {a:Addr} (hs:h.objs.size≤h'.objs.size) (C:Heap.ExtBut a h h') (ha:ad.n0≤a) (hm:a∉muts μ) (la:Loose h [a]):Sim w ad μ st h':=by
 refine ⟨S.base.but hs C ha la,S.len,fun n p ob hn ho=>(S.obj n p ob hn ho).up S (.but hs C) la (fun o e=>?_) (fun o e=>?_),S.high,S.apart⟩
 ·exact C _ _ (fun q=>hm (mem_muts.mpr ⟨n,p,hn,.inl q.symm⟩)) e
 ·exact C _ _ (fun q=>hm (mem_muts.mpr ⟨n,p,hn,.inr q.symm⟩)) e
theorem Sim.same {μ:Mu} {st:St} {h h':Heap} (S:Sim w ad μ st h) {a:Addr} (C:Heap.SameBut a h h') (ha:ad.n0≤a) (hm:a∉muts μ) (la:Loose h [a]):Sim w ad μ st h' :=
 S.but (by rw [C.1];exact Nat.le_refl _) C.extBut ha hm la
theorem Step.grow {tabs X:List Addr} {μ:Mu} {h h':Heap} (hs:h.objs.size≤h'.objs.size) (C:∀ b o,h.get? b=some o→h'.get? b=some o):Step tabs X μ h μ h' :=
 ⟨⟨[],by simp,by simp⟩,hs,fun b o e _ _ _=>.inl (C b o e)⟩
theorem Sim.grow {μ:Mu} {st:St} {h h':Heap} (S:Sim w ad μ st h) (hs:h.objs.size≤h'.objs.size) (C:∀ b o,h.get? b=some o→h'.get? b=some o):Sim w ad μ st h' :=
 ⟨S.base.ext (X:=[]) hs (fun b o _ e=>C b o e) (fun _ q=>nomatch q) Loose.nil,S.len,fun n p ob hn ho=>(S.obj n p ob hn ho).up S (.grow hs C) Loose.nil (fun o e=>C _ _ e) (fun o e=>C _ _ e),S.high,S.apart⟩
theorem Sim.setList {μ:Mu} {st:St} {h h':Heap} (S:Sim w ad μ st h) {n:Nat} {p:Addr × Addr} {l l':List V} {mvs:Array Value} {k:Nat} (hn:μ[n]?=some p) (hs:st[n]?=some (.list l)) (C:Heap.SameBut p.1 h h')
  (hg:h'.get? p.1=some (listOf mvs k)) (hv:All2 (RV cPair μ h) l' mvs.toList):Sim w ad μ (st.set n (.list l')) h':=by
 have R:=S.obj n p _ hn hs
 refine xAEEA (id R) fun e2 mvs0 k0 hg0 _=>?_
 have la:Loose h [p.1]:=fun a ha o e=>by
  rw [List.mem_singleton.mp ha,hg0] at e;obtain rfl:=Option.some.inj e
  exact notFixed rfl (by decide)
 have T:Step ad.tabs [p.1] μ h μ h':=.same C
 have hp:p.1∈muts μ:=mem_muts.mpr ⟨n,p,hn,.inl rfl⟩
 refine ⟨S.base.same C (S.high _ hp) la,by simp [S.len],fun j q ob hj ho=>?_,S.high,S.apart⟩
 by_cases hjn:n=j
 ·subst hjn
  rw [hn] at hj;obtain rfl:=Option.some.inj hj
  rw [List.getElem?_set_self (List.getElem?_eq_some_iff.mp hs).1] at ho
  obtain rfl:=Option.some.inj ho
  exact ⟨e2,_,_,hg,hv.imp fun a b r=>r.up S T la⟩
 ·rw [List.getElem?_set_ne hjn] at ho
  have z:=S.apart n j p q hn hj hjn
  exact (S.obj j q ob hj ho).up S T la (fun o e=>(C.2 _ (Ne.symm z.1)).trans e) (fun o e=>(C.2 _ (Ne.symm z.2.1)).trans e)
end Mine
namespace Mine
open PySem PySem.W PySem.Calls PyProof.Rows
variable {w : World} {ad : Adr} {r : Nat} {st st₁ st₂ st₃ : St} {env : Env} {loc loc₁ loc₂ loc₃ : Loc}
/-! ints -/
theorem TO2.int {f:Value→Value→Sem Value} {a b c:Int} (h:∀ (A:Around) (E:Value→Shared→Prop) (s:Shared) (t u:Tok) (Q:Value→Shared→Prop),Q (.int c s.toks) { s with toks:=s.toks + 1 }→wpAny (model prog w) A (f (.int a t) (.int b u)) Q E s) :
  TO2 w ad r st f (.int a) (.int b) (.int c) st:=by
 intro A E s μ x y Q hA S rx ry k
 cases rx;refine xE ry.intE fun _ q'1=>?_;subst q'1
 exact h A E s _ _ Q (k _ _ _ μ .refl S (.int c _))
theorem TO2.intB {f:Value→Value→Sem Value} {a b:Int} {c:Bool} (h:∀ (A:Around) (E:Value→Shared→Prop) (s:Shared) (t u:Tok) (Q:Value→Shared→Prop),Q (.bool c) s→wpAny (model prog w) A (f (.int a t) (.int b u)) Q E s) :
  TO2 w ad r st f (.int a) (.int b) (.bool c) st:=by
 intro A E s μ x y Q hA S rx ry k
 cases rx;refine xE ry.intE fun _ q'1=>?_;subst q'1
 exact h A E s _ _ Q (k _ _ s.toks μ .refl S (.bool c))
theorem TO2.add {a b:Int}:TO2 w ad r st (binaryOp .Add) (.int a) (.int b) (.int (a + b)) st:=.int fun _ _ _ _ _ _ h=>PyProof.Rows.add_int h
theorem TO2.sub {a b:Int}:TO2 w ad r st (binaryOp .Sub) (.int a) (.int b) (.int (a - b)) st:=.int fun _ _ _ _ _ _ h=>PyProof.Rows.sub_int h
theorem TO2.mul {a b:Int} (ha:-(2 ^ 64) < a) (hb:a < 2 ^ 64):TO2 w ad r st (binaryOp .Mult) (.int a) (.int b) (.int (a * b)) st:=.int fun _ _ _ _ _ _ h=>PyProof.Rows.mul_int h (IntMulOk.of_left (intBits_le_64 ha hb))
theorem TO2.fdiv {a b:Int} (h0:b≠0) (hb:b.natAbs < 1073741824):TO2 w ad r st (binaryOp .FloorDiv) (.int a) (.int b) (.int (a.fdiv b)) st:=.int fun _ _ _ _ _ _ h=>PyProof.Rows.floordiv_int h0 h (.inl (PyProof.noPylong_small hb))
theorem TO2.mod {a b:Int} (h0:b≠0):TO2 w ad r st (binaryOp .Mod) (.int a) (.int b) (.int (a.fmod b)) st:=.int fun _ _ _ _ _ _ h=>PyProof.Rows.mod_int' h0 h
theorem TO2.pow {a b:Int} (h0:0≤b) (hs:(Builtin.Int.intBits a:Int) * b≤2 ^ 27):TO2 w ad r st (binaryOp .Pow) (.int a) (.int b) (.int (a ^ b.toNat)) st:=.int fun _ _ _ _ _ _ h=>PyProof.Rows.pow_int h0 hs h
theorem TO2.eq {a b:Int}:TO2 w ad r st (compareOp .Eq) (.int a) (.int b) (.bool (a == b)) st:=.intB fun _ _ _ _ _ _ h=>PyProof.Rows.eq_int h
theorem TO2.ne {a b:Int}:TO2 w ad r st (compareOp .NotEq) (.int a) (.int b) (.bool (a != b)) st:=.intB fun _ _ _ _ _ _ h=>PyProof.Rows.ne_int h
theorem TO2.lt {a b:Int}:TO2 w ad r st (compareOp .Lt) (.int a) (.int b) (.bool (decide (a < b))) st:=.intB fun _ _ _ _ _ _ h=>PyProof.Rows.lt_int h
theorem TO2.gt {a b:Int}:TO2 w ad r st (compareOp .Gt) (.int a) (.int b) (.bool (decide (b < a))) st:=.intB fun _ _ _ _ _ _ h=>PyProof.Rows.gt_int h
theorem TO2.ge {a b:Int}:TO2 w ad r st (compareOp .GtE) (.int a) (.int b) (.bool (decide (b≤a))) st:=.intB fun _ _ _ _ _ _ h=>PyProof.Rows.ge_int h
/-! texts -/
theorem TO2.cat {x y:Str} (hsz:x.length + y.length≤sizeLine):TO2 w ad r st (binaryOp .Add) (.str x) (.str y) (.str (x++y)) st:=by
 intro A E s μ a b Q hA S rx ry k
 cases rx;refine xE ry.strE fun _ q'1=>?_;subst q'1
 exact SBL.add (fun t' j _=>k _ _ _ μ .refl S (.str _ _)) hsz
/-! displays -/
theorem eval_List_ {es:List Expr} {pos:Pos}:eval (.List es pos) env=(do standAt pos;newList (← spliced (backTo pos (starEach es env)))):=rfl
theorem eval_Tuple_ {es:List Expr} {k:Nat} {pos:Pos}:eval (.Tuple es k pos) env=(do standAt pos;newTuple (← spliced (backTo pos (starEach es env)))):=rfl
theorem TE.list {es:List Expr} {pos:Pos} {vs:List V} (T:TL w ad r env loc st es vs st₁) (hsz:vs.length≤sizeLine):TE w ad r env loc st (.List es pos) (.ref st₁.length) (st₁++[.list vs]):=by
 intro A E s μ Q hA S F h
 rw [eval_List_]
 refine wpAny_bind (wpAny_standAt (wpAny_bind (T pos A E s μ _ hA S F fun mvs h₁ tk₁ μ₁ t₁ S₁ F₁ r₁=>?_)))
 refine wpAny_newList ?_ (r₁.length ▸ hsz)
 have T₂:Step ad.tabs [] μ₁ h₁ (μ₁++[(h₁.objs.size,h₁.objs.size)]) (h₁.push (listOf mvs.toArray 0)):=.pushNew _
 exact h _ _ _ _ (t₁.trans0 T₂) (S₁.pushList r₁) (F₁.up S₁ T₂) (.ref (by rw [List.getElem?_append_right (Nat.le_of_eq S₁.len),S₁.len,Nat.sub_self];rfl))
theorem TE.tup2 {es:List Expr} {j:Nat} {pos:Pos} {a b:V} (T:TL w ad r env loc st es [a,b] st₁):TE w ad r env loc st (.Tuple es j pos) (.tup2 a b) st₁:=by
 intro A E s μ Q hA S F h
 rw [eval_Tuple_]
 refine wpAny_bind (wpAny_standAt (wpAny_bind (T pos A E s μ _ hA S F fun mvs h₁ tk₁ μ₁ t₁ S₁ F₁ r₁=>?_)))
 refine wpAny_newTuple ?_ (by rw [← r₁.length];exact (by decide:2≤sizeLine))
 refine r₁.e2 fun _ _ ra rb=>?_
 have T₂:∀ o,Step ad.tabs [] μ₁ h₁ μ₁ (h₁.push o):=fun o=>.push o
 exact h _ _ _ _ (t₁.trans0 (T₂ _)) (S₁.push _) (F₁.up S₁ (T₂ _)) (.tup2 (Heap.get?_push_size _ rfl) (ra.up S₁ (T₂ _) Loose.nil) (rb.up S₁ (T₂ _) Loose.nil))
theorem TE.tup4 {es:List Expr} {j:Nat} {pos:Pos} {a b c d:V} (T:TL w ad r env loc st es [a,b,c,d] st₁):TE w ad r env loc st (.Tuple es j pos) (.tup4 a b c d) st₁:=by
 intro A E s μ Q hA S F h
 rw [eval_Tuple_]
 refine wpAny_bind (wpAny_standAt (wpAny_bind (T pos A E s μ _ hA S F fun mvs h₁ tk₁ μ₁ t₁ S₁ F₁ r₁=>?_)))
 refine wpAny_newTuple ?_ (by rw [← r₁.length];exact (by decide:4≤sizeLine))
 refine r₁.e4 fun _ _ _ _ ra rb rc rd=>?_
 have T₂:∀ o,Step ad.tabs [] μ₁ h₁ μ₁ (h₁.push o):=fun o=>.push o
 exact h _ _ _ _ (t₁.trans0 (T₂ _)) (S₁.push _) (F₁.up S₁ (T₂ _)) (.tup4 (Heap.get?_push_size _ rfl) (ra.up S₁ (T₂ _) Loose.nil) (rb.up S₁ (T₂ _) Loose.nil) (rc.up S₁ (T₂ _) Loose.nil) (rd.up S₁ (T₂ _) Loose.nil))
/-! tests and choices -/
theorem TB.not {x:Expr} {pos:Pos} {whole:Sem Value} {b:Bool} (T:TB w ad r env loc st (isTrue x env (eval x env)) b st₁):TB w ad r env loc st (isTrue (.UnaryOp .Not x pos) env whole) (!b) st₁:=by
 intro A E s μ Q hA S F h
 show wpAny _ _ (do return !(← isTrue x env (eval x env))) _ _ _
 exact wpAny_bind (T A E s μ _ hA S F fun h' tk μ' t S' F'=>wpAny_pure (h h' tk μ' t S' F'))
theorem eval_IfExp_ {t b o:Expr} {pos:Pos}:eval (.IfExp t b o pos) env=(do if ← isTrue t env (eval t env) then eval b env else eval o env):=rfl
theorem TE.ifT {t b o:Expr} {pos:Pos} {v:V} (T:TB w ad r env loc st (isTrue t env (eval t env)) true st₁) (K:TE w ad r env loc st₁ b v st₂):TE w ad r env loc st (.IfExp t b o pos) v st₂:=by
 intro A E s μ Q hA S F h
 rw [eval_IfExp_]
 refine wpAny_bind (T A E s μ _ hA S F fun h₁ tk₁ μ₁ t₁ S₁ F₁=>?_)
 rw [if_pos rfl]
 exact K A E _ μ₁ _ hA S₁ F₁ fun mv h' tk μ' t' S' F' rv=>h mv h' tk μ' (t₁.trans0 t') S' F' rv
theorem TE.ifF {t b o:Expr} {pos:Pos} {v:V} (T:TB w ad r env loc st (isTrue t env (eval t env)) false st₁) (K:TE w ad r env loc st₁ o v st₂):TE w ad r env loc st (.IfExp t b o pos) v st₂:=by
 intro A E s μ Q hA S F h
 rw [eval_IfExp_]
 refine wpAny_bind (T A E s μ _ hA S F fun h₁ tk₁ μ₁ t₁ S₁ F₁=>?_)
 rw [if_neg Bool.false_ne_true]
 exact K A E _ μ₁ _ hA S₁ F₁ fun mv h' tk μ' t' S' F' rv=>h mv h' tk μ' (t₁.trans0 t') S' F' rv
/-! statements -/
noncomputable def FlR (μ:Mu) (h:Heap):Option V→Flow→Prop
 | none,f=>f=.next
 | some v,f=>∃ mv,f=.ret mv∧RV cPair μ h v mv
noncomputable def TS (w:World) (ad:Adr) (r:Nat) (env:Env) (loc:Loc) (st:St) (ss:List Stmt) (fl:Option V) (loc':Loc) (st':St):Prop :=
 ∀ (A:Around) (E:Value→Shared→Prop) (s:Shared) (μ:Mu) (Q:Flow→Shared→Prop),AOk r A→Sim w ad μ st s.heap→Frame ad μ s.heap env loc →
  (∀ f h' tk μ',Step ad.tabs (own env) μ s.heap μ' h'→Sim w ad μ' st' h'→Frame ad μ' h' env loc'→FlR μ' h' fl f→Q f { s with heap:=h',toks:=tk }) →
  wpAny (model prog w) A (execs ss env) Q E s
noncomputable def TS1 (w:World) (ad:Adr) (r:Nat) (env:Env) (loc:Loc) (st:St) (t:Stmt) (fl:Option V) (loc':Loc) (st':St):Prop :=
 ∀ (A:Around) (E:Value→Shared→Prop) (s:Shared) (μ:Mu) (Q:Flow→Shared→Prop),AOk r A→Sim w ad μ st s.heap→Frame ad μ s.heap env loc →
  (∀ f h' tk μ',Step ad.tabs (own env) μ s.heap μ' h'→Sim w ad μ' st' h'→Frame ad μ' h' env loc'→FlR μ' h' fl f→Q f { s with heap:=h',toks:=tk }) →
  wpAny (model prog w) A (exec t env) Q E s
theorem TS.nil:TS w ad r env loc st [] none loc st:=by
 intro A E s μ Q hA S F h
 exact wpAny_execs_nil (h .next _ s.toks μ .refl S F rfl)
theorem TS1.cons {t:Stmt} {rest:List Stmt} {fl:Option V} (T:TS1 w ad r env loc st t none loc₁ st₁) (R:TS w ad r env loc₁ st₁ rest fl loc₂ st₂):TS w ad r env loc st (t :: rest) fl loc₂ st₂:=by
 intro A E s μ Q hA S F h
 refine wpAny_execs_cons (T A E s μ _ hA S F fun f h₁ tk₁ μ₁ t₁ S₁ F₁ hf=>?_)
 subst hf
 exact R A E _ μ₁ _ hA S₁ F₁ fun f h₂ tk₂ μ₂ t₂ S₂ F₂ hf=>h f h₂ tk₂ μ₂ (t₁.trans0 t₂) S₂ F₂ hf
theorem TS.stop {t:Stmt} {rest:List Stmt} {v:V} (T:TS1 w ad r env loc st t (some v) loc₁ st₁):TS w ad r env loc st (t :: rest) (some v) loc₁ st₁:=by
 intro A E s μ Q hA S F h
 refine wpAny_execs_cons (T A E s μ _ hA S F fun f h₁ tk₁ μ₁ t₁ S₁ F₁ hf=>?_)
 refine xEA hf fun mv q'1 rv=>?_;try clear hf;subst q'1
 exact h _ h₁ tk₁ μ₁ t₁ S₁ F₁ ⟨mv,rfl,rv⟩
noncomputable def TR (w:World) (ad:Adr) (r:Nat) (env:Env) (loc:Loc) (st:St) (ss:List Stmt) (v:V) (st':St):Prop:=∃ loc',TS w ad r env loc st ss (some v) loc' st'
theorem TR.cons {t:Stmt} {rest:List Stmt} {v:V} (T:TS1 w ad r env loc st t none loc₁ st₁) (R:TR w ad r env loc₁ st₁ rest v st₂):TR w ad r env loc st (t :: rest) v st₂:=let ⟨l,R⟩:=R;⟨l,T.cons R⟩
theorem TR.stop {t:Stmt} {rest:List Stmt} {v:V} (T:TS1 w ad r env loc st t (some v) loc₁ st₁):TR w ad r env loc st (t :: rest) v st₁:=⟨_,TS.stop T⟩
noncomputable def TRo (w:World) (ad:Adr) (r:Nat) (env:Env) (loc:Loc) (st:St) (ss:List Stmt) (v:V) (st':St):Prop:=∃ fl loc',TS w ad r env loc st ss fl loc' st'∧v=fl.getD .none
theorem TR.o {ss:List Stmt} {v:V} (R:TR w ad r env loc st ss v st₁):TRo w ad r env loc st ss v st₁:=let ⟨l,R⟩:=R;⟨some v,l,R,rfl⟩
theorem Step.wide {tabs X:List Addr} {μ μ':Mu} {h h':Heap} (S:Step tabs [] μ h μ' h'):Step tabs X μ h μ' h':=S.weaken fun _ q=>nomatch q
theorem TS1.ret {e:Expr} {pos:Pos} {v:V} (T:TE w ad r env loc st e v st₁):TS1 w ad r env loc st (.Return (some e) pos) (some v) loc st₁:=by
 intro A E s μ Q hA S F h
 refine wpAny_Return_some (T A E s μ _ hA S F fun mv h₁ tk₁ μ₁ t₁ S₁ F₁ rv=>?_)
 exact h _ h₁ tk₁ μ₁ t₁.wide S₁ F₁ ⟨mv,rfl,rv⟩
theorem TR.ret {e:Expr} {pos:Pos} {rest:List Stmt} {v:V} (T:TE w ad r env loc st e v st₁):TR w ad r env loc st (.Return (some e) pos :: rest) v st₁:=TR.stop (TS1.ret T)
theorem TS1.ifT {t:Expr} {b o:List Stmt} {pos:Pos} {fl:Option V} (T:TB w ad r env loc st (isTrue t env (eval t env)) true st₁) (K:TS w ad r env loc st₁ b fl loc₂ st₂):TS1 w ad r env loc st (.If t b o pos) fl loc₂ st₂:=by
 intro A E s μ Q hA S F h
 refine wpAny_If (T A E s μ _ hA S F fun h₁ tk₁ μ₁ t₁ S₁ F₁=>?_)
 rw [if_pos rfl]
 exact K A E _ μ₁ _ hA S₁ F₁ fun f h₂ tk₂ μ₂ t₂ S₂ F₂ hf=>h f h₂ tk₂ μ₂ (t₁.wide.trans0 t₂) S₂ F₂ hf
theorem TS1.ifF {t:Expr} {b o:List Stmt} {pos:Pos} {fl:Option V} (T:TB w ad r env loc st (isTrue t env (eval t env)) false st₁) (K:TS w ad r env loc st₁ o fl loc₂ st₂):TS1 w ad r env loc st (.If t b o pos) fl loc₂ st₂:=by
 intro A E s μ Q hA S F h
 refine wpAny_If (T A E s μ _ hA S F fun h₁ tk₁ μ₁ t₁ S₁ F₁=>?_)
 rw [if_neg Bool.false_ne_true]
 exact K A E _ μ₁ _ hA S₁ F₁ fun f h₂ tk₂ μ₂ t₂ S₂ F₂ hf=>h f h₂ tk₂ μ₂ (t₁.wide.trans0 t₂) S₂ F₂ hf
theorem store {x:Str} {v:V} {mv:Value} {A:Around} {E:Value→Shared→Prop} {s:Shared} {μ:Mu} {Q:Unit→Shared→Prop} (hk:env.kindOf x=some .local∨env.kindOf x=some .cell) (hc:env.kindOf x=some .cell→(env.cells.lookup x).isSome=true∧env.func.isSome=true)
  (S:Sim w ad μ st s.heap) (F:Frame ad μ s.heap env loc) (rv:RV cPair μ s.heap v mv)
  (h:∀ h' tk,Step ad.tabs (own env) μ s.heap μ h'→Sim w ad μ st h'→Frame ad μ h' env ((x,v) :: loc)→Q () { s with heap:=h',toks:=tk }):wpAny (model prog w) A (storeName env x mv) Q E s:=by
 have hl:=F.loose
 rcases hk with hk | hk
 ·refine xEA F.ns fun m hm hv=>?_
  refine wpAny_storeName_local hk hm (fun h' hn hs=>?_) (by rw [F.fn];rfl)
  have lx:Loose s.heap [env.locals]:=fun a ha=>hl a (by rw [List.mem_singleton.mp ha];exact .head _)
  have T0:Step ad.tabs [env.locals] μ s.heap μ h':=.same hs
  have T:Step ad.tabs (own env) μ s.heap μ h':=T0.weaken fun a ha=>.inl (by rw [List.mem_singleton.mp ha];exact .head _)
  have S':=S.same hs F.off.2.2 F.off.1 lx
  have cellk:∀ y c,(y,c)∈env.cells→∀ cv,s.heap.IsCell c cv→h'.IsCell c cv:=fun y c hm' cv ⟨o,ho,hd⟩=>⟨o,(hs.2 c (F.cells y c hm').2.2.2.2).trans ho,hd⟩
  refine h h' _ T S' ⟨F.fn,F.gl,F.bl,⟨_,hn,fun y u e k=>?_⟩,fun y u e k=>?_,fun y c hm'=>?_,F.apart,F.off⟩
  ·rw [List.lookup_cons] at e
   by_cases hy:y=x
   ·subst hy
    rw [beq_self_eq_true] at e
    obtain rfl:=Option.some.inj e
    exact ⟨mv,by simp,rv.up S T0 lx⟩
   ·rw [beq_eq_false_iff_ne.mpr hy] at e
    refine xEA (hv y u e k) fun mu e1 ru=>?_
    exact ⟨mu,by simp [hy,e1],ru.up S T0 lx⟩
  ·rw [List.lookup_cons] at e
   by_cases hy:y=x
   ·subst hy;rw [hk] at k;rcases k with k | k <;> exact absurd k (by decide)
   ·rw [beq_eq_false_iff_ne.mpr hy] at e
    refine xEEAA (F.cell y u e k) fun c mu e1 e2 ru=>?_
    exact ⟨c,mu,e1,cellk y c (mem_lookup e1) _ e2,ru.up S T0 lx⟩
  ·refine xA (F.cells y c hm') fun z'1 q=>?_;refine xE z'1 fun cv e=>?_
   exact ⟨⟨cv,cellk y c hm' cv e⟩,q⟩
 ·refine xE (Option.isSome_iff_exists.mp (hc hk).1) fun c hcl=>?_
  have hfn:=(hc hk).2
  have hcm:=mem_lookup hcl
  refine xAAAA (F.cells x c hcm) fun z'1 q1 q2 q3 q4=>?_;refine xE z'1 fun cv hcv=>?_
  refine wpAny_storeName_cell F.fn hk hcl hcv (fun h' hn hs=>?_)
  have lx:Loose s.heap [c]:=fun a ha=>hl a (by rw [List.mem_singleton.mp ha];exact own_cell hfn hcm hk)
  have T0:Step ad.tabs [c] μ s.heap μ h':=.same hs
  have T:Step ad.tabs (own env) μ s.heap μ h':=T0.weaken fun a ha=>.inl (by rw [List.mem_singleton.mp ha];exact own_cell hfn hcm hk)
  have S':=S.same hs (q3 hfn hk) q1 lx
  have cellk:∀ y d,(y,d)∈env.cells→d≠c→∀ cv,s.heap.IsCell d cv→h'.IsCell d cv:=fun y d _ hd cv ⟨o,ho,e⟩=>⟨o,(hs.2 d hd).trans ho,e⟩
  have uniq:∀ y d,env.cells.lookup y=some d→y≠x→d≠c:=fun y d e hy hd=>by
   subst hd
   have p:=F.apart
   have m1:=mem_lookup e
   have:=(List.pairwise_iff_getElem.mp p)
   obtain ⟨i,hi,ei⟩:=List.getElem_of_mem m1
   obtain ⟨j,hj,ej⟩:=List.getElem_of_mem hcm
   rcases Nat.lt_trichotomy i j with lt | eq | gt
   ·exact this i j hi hj lt (by rw [ei,ej])
   ·subst eq;rw [ei] at ej;cases ej;exact hy rfl
   ·exact this j i hj hi gt (by rw [ei,ej])
  refine xEA F.ns fun m hm hv=>?_
  refine h h' _ T S' ⟨F.fn,F.gl,F.bl,⟨m,hm.sameBut hs (Ne.symm q4),fun y u e k=>?_⟩,fun y u e k=>?_,fun y d hm'=>?_,F.apart,F.off⟩
  ·rw [List.lookup_cons] at e
   by_cases hy:y=x
   ·subst hy;rw [hk] at k;exact absurd k (by decide)
   ·rw [beq_eq_false_iff_ne.mpr hy] at e
    refine xEA (hv y u e k) fun mu e1 ru=>?_
    exact ⟨mu,e1,ru.up S T0 lx⟩
  ·rw [List.lookup_cons] at e
   by_cases hy:y=x
   ·subst hy
    rw [beq_self_eq_true] at e
    obtain rfl:=Option.some.inj e
    exact ⟨c,mv,hcl,hn,rv.up S T0 lx⟩
   ·rw [beq_eq_false_iff_ne.mpr hy] at e
    refine xEEAA (F.cell y u e k) fun d mu e1 e2 ru=>?_
    exact ⟨d,mu,e1,cellk y d (mem_lookup e1) (uniq y d e1 hy) _ e2,ru.up S T0 lx⟩
  ·refine xA (F.cells y d hm') fun z'1 q=>?_;refine xE z'1 fun cv' e=>?_
   by_cases hd:d=c
   ·subst hd;exact ⟨⟨_,hn⟩,q⟩
   ·exact ⟨⟨cv',cellk y d hm' hd cv' e⟩,q⟩
theorem TS1.assign {x:Str} {pos' pos:Pos} {e:Expr} {v:V} (T:TE w ad r env loc st e v st₁) (hk:env.kindOf x=some .local∨env.kindOf x=some .cell) (hc:env.kindOf x=some .cell→(env.cells.lookup x).isSome=true∧env.func.isSome=true)
  (hs:swapsWith e (some (.Name x pos')) pos.line env=pure false:=by rfl):TS1 w ad r env loc st (.Assign [.Name x pos'] e pos) none ((x,v) :: loc) st₁:=by
 intro A E s μ Q hA S F h
 refine wpAny_Assign_Name (T A E s μ _ hA S F fun mv h₁ tk₁ μ₁ t₁ S₁ F₁ rv=>?_) hs
 refine store hk hc S₁ F₁ rv fun h' tk T' S' F'=>?_
 exact h .next h' tk μ₁ (t₁.wide.trans0 T') S' F' rfl
noncomputable abbrev fdAt (i:Nat) (nm:Str) (pm cd:Value):FuncData:=docDef nm (fArgs (stAt i)) (fBody (stAt i)) (fScope (stAt i)) pm cd .none
noncomputable def FnAt (ad:Adr) (nm:Str) (i:Nat) (a:Addr):Prop :=
 ad.mg nm=some (.ref a)∧a∉ad.tabs∧∃ (o:Obj) (pm cd:Value) (c:Addr),ad.hb.get? a=some o∧o.cls=.type "function"∧o.data=.func (fdAt i nm pm cd)∧cd=.ref c∧c∉ad.tabs∧ad.hb.CodeRec cd nm
theorem Base.get {h:Heap} (B:Base w ad h) {a:Addr} {o:Obj} (t:a∉ad.tabs) (e:ad.hb.get? a=some o):h.get? a=some o:=B.keep a o t e
theorem Base.ns {h:Heap} (B:Base w ad h):h.Ns mainGlobals ad.mg:=by
 refine xEEEA B.facts.ns fun o es ep e q=>?_
 exact ⟨o,es,ep,B.keep _ _ B.facts.nsT e,q⟩
theorem Base.builtin {h:Heap} (B:Base w ad h) {x:Str} (hx:x≠("__name__":Str)):∃ mb,h.Ns builtinsNs mb∧mb x=bootBuiltins x:=by
 refine xEA (B.facts.bs x hx) fun mb z'1 hm=>?_;refine xEEEA z'1 fun o es ep e q=>?_
 exact ⟨mb,⟨o,es,ep,B.keep _ _ B.facts.bsT e,q⟩,hm⟩
theorem Base.noLimit {h:Heap} (B:Base w ad h):h.NoLimit:=by
 refine xEA B.facts.nolimit fun mc z'1 hm=>?_;refine xEEEA z'1 fun o es ep e q=>?_
 exact ⟨mc,⟨o,es,ep,B.keep _ _ B.facts.nolimitT e,q⟩,hm⟩
theorem Base.codeRec {h:Heap} (B:Base w ad h) {c:Addr} {q:Str} (t:c∉ad.tabs) (e:ad.hb.CodeRec (.ref c) q):h.CodeRec (.ref c) q:=by
 refine xEEEEAAA e fun c' o vs tk e1 e2 e3 e4=>?_
 cases e1
 exact ⟨c,o,vs,tk,rfl,B.keep _ _ t e2,e3,e4⟩
noncomputable abbrev TC (w:World) (ad:Adr) (r:Nat) (a:Addr) (st:St) (as:List V) (v:V) (st':St):Prop:=TO w ad r st (fun xs=>call (.ref a) xs) as v st'
noncomputable def LB (μ:Mu) (h:Heap) (p:Str × V) (q:Str × Value):Prop:=p.1=q.1∧RV cPair μ h p.2 q.2
theorem All2.names {μ:Mu} {h:Heap} {l:Loc} {b:List (Str × Value)} (x:All2 (LB μ h) l b):b.map (·.1)=l.map (·.1):=by
 induction x with
 | nil=>rfl
 | cons h1 _ ih=>rw [List.map_cons,List.map_cons,ih,h1.1]
theorem bindL_skip {k:Str→Option NameKind}:∀ {binds:List (Str × Value)} {m:Str→Option Value} {x:Str},(∀ q∈binds,q.1≠x)→bindL k binds m x=m x
 | [],_,_,_=>rfl
 | (n,v) :: b,m,x,h=>by
  unfold bindL
  rw [bindL_skip fun q hq=>h q (.tail _ hq)]
  have:x≠n:=fun e=>h (n,v) (.head _) e.symm
  split <;> simp [this]
theorem bindC_skip {k:Str→Option NameKind}:∀ {binds:List (Str × Value)} {m:Str→Option Value} {x:Str},(∀ q∈binds,q.1≠x)→bindC k binds m x=m x
 | [],_,_,_=>rfl
 | (n,v) :: b,m,x,h=>by
  unfold bindC
  rw [bindC_skip fun q hq=>h q (.tail _ hq)]
  have:x≠n:=fun e=>h (n,v) (.head _) e.symm
  split <;> simp [this]
theorem bindL_get {k:Str→Option NameKind} {μ:Mu} {h:Heap} {loc:Loc} {binds:List (Str × Value)} {m:Str→Option Value} {x:Str} {v:V} (H:All2 (LB μ h) loc binds) (hn:(loc.map (·.1)).Nodup) (e:loc.lookup x=some v) (hk:k x=some .local):∃ mv,bindL k binds m x=some mv∧RV cPair μ h v mv:=by
 induction H generalizing m with
 | nil=>exact nsome e
 | @cons p q l b h1 hb ih =>
  obtain ⟨y,u⟩:=p
  obtain ⟨z,mu⟩:=q
  refine xA h1 fun e1 ru=>?_
  have e1':y=z:=e1
  subst e1'
  rw [List.map_cons,List.nodup_cons] at hn
  rw [List.lookup_cons] at e
  unfold bindL
  by_cases hy:x=y
  ·subst hy
   rw [beq_self_eq_true] at e;obtain rfl:=Option.some.inj e
   rw [bindL_skip fun q hq eq=>hn.1 ?_]
   ·rw [if_pos hk];exact ⟨mu,by simp,ru⟩
   ·rw [← eq]
    rw [← hb.names];exact List.mem_map_of_mem hq
  ·rw [beq_eq_false_iff_ne.mpr hy] at e
   exact ih hn.2 e
theorem bindC_get {k:Str→Option NameKind} {μ:Mu} {h:Heap} {loc:Loc} {binds:List (Str × Value)} {m:Str→Option Value} {x:Str} {v:V} (H:All2 (LB μ h) loc binds) (hn:(loc.map (·.1)).Nodup) (e:loc.lookup x=some v) (hk:k x≠some .local):∃ mv,bindC k binds m x=some mv∧RV cPair μ h v mv:=by
 induction H generalizing m with
 | nil=>exact nsome e
 | @cons p q l b h1 hb ih =>
  obtain ⟨y,u⟩:=p
  obtain ⟨z,mu⟩:=q
  refine xA h1 fun e1 ru=>?_
  have e1':y=z:=e1
  subst e1'
  rw [List.map_cons,List.nodup_cons] at hn
  rw [List.lookup_cons] at e
  unfold bindC
  by_cases hy:x=y
  ·subst hy
   rw [beq_self_eq_true] at e;obtain rfl:=Option.some.inj e
   rw [bindC_skip fun q hq eq=>hn.1 ?_]
   ·rw [if_neg hk];exact ⟨mu,by simp,ru⟩
   ·rw [← eq]
    rw [← hb.names];exact List.mem_map_of_mem hq
  ·rw [beq_eq_false_iff_ne.mpr hy] at e
   exact ih hn.2 e
theorem AOk.deeper {r:Nat} {A:Around} (h:AOk (r + 1) A) (env:Env):AOk r (A.deeper env):=by
 refine xE h.frames fun l hl=>?_
 exact ⟨h.handled,⟨env :: l,by simp [Around.deeper,hl]⟩,by have:=h.depth;simp only [Around.deeper];omega,by have:=h.units;simp only [Around.deeper_units];omega⟩
theorem AOk.room {r:Nat} {A:Around} (h:AOk r A):A.depth < recursionLimit:=by have:=h.depth;simp only [recursionLimit];omega
noncomputable abbrev frameEnv (i:Nat) (nm:Str) (pm cd:Value) (L a:Addr):Env:=callEnvC (fdAt i nm pm cd) L a
theorem look_some {x:Str} {c:Addr}:∀ {l:List (Str × Addr)},(x,c)∈l→(l.lookup x).isSome=true
 | (y,d) :: l,h=>by
  rw [List.lookup_cons]
  by_cases e:x=y
  ·subst e;simp
  ·rw [beq_eq_false_iff_ne.mpr e]
   rcases List.mem_cons.mp h with q | q
   ·cases q;exact absurd rfl e
   ·exact look_some q
theorem cells_mem {x:Str} {c:Addr}:∀ {names:List (Str × NameKind)} {n:Nat} {acc:List (Str × Addr)},(x,c)∈acc→(x,c)∈cellsFrom n names acc
 | [],_,_,h=>h
 | (y,k) :: r,n,acc,h=>by
  unfold cellsFrom
  split
  ·exact cells_mem (.tail _ h)
  ·exact cells_mem h
theorem cells_some {x:Str}:∀ {names:List (Str × NameKind)} {n:Nat} {acc:List (Str × Addr)},names.lookup x=some .cell→((cellsFrom n names acc).lookup x).isSome=true
 | (y,k) :: r,n,acc,h=>by
  rw [List.lookup_cons] at h
  unfold cellsFrom
  by_cases e:x=y
  ·subst e
   rw [beq_self_eq_true] at h
   obtain rfl:=Option.some.inj h
   exact look_some (cells_mem (.head _))
  ·rw [beq_eq_false_iff_ne.mpr e] at h
   split <;> exact cells_some h
noncomputable def FnFd (ad:Adr) (a:Addr) (fd:FuncData):Prop:=a∉ad.tabs∧∃ (o:Obj) (c:Addr),ad.hb.get? a=some o∧o.data=.func fd∧fd.code=.ref c∧c∉ad.tabs∧ad.hb.CodeRec fd.code fd.qualname
theorem TC.fdo {fd:FuncData} {bd:List Stmt} {a:Addr} {ps:List Str} {as:List V} {v:V} (hf:FnFd ad a fd)
  (hbody:fd.body=.stmts bd) (hclo:fd.closure=[]) (hgl:fd.globals=mainGlobals) (hbl:fd.builtins=builtinsNs)
  (hbind:∀ (xs:List Value),xs.length=ps.length→∀ (A:Around) (E:Value→Shared→Prop) (s:Shared) (Q:List (Str × Value)→Shared→Prop),Base w ad s.heap→Q (ps.zip xs) s→wpAny (model prog w) A (bindArgs fd ⟨xs,[]⟩) Q E s)
  (hps:ps.Nodup) (hlen:as.length=ps.length)
  (hkind':∀ x∈ps,fd.scope.names.lookup x=some .local∨fd.scope.names.lookup x=some .cell)
  (hnd:((cellsFrom 0 fd.scope.names []).map (·.1)).Nodup)
  (body:∀ (L:Addr),TRo w ad r (callEnvC fd L a) (ps.zip as) st bd v st₁)
  (hco:fd.scope.isCoroutine=false:=by rfl) (hgen:fd.scope.isGenerator=false:=by rfl) (hk:fd.scope.kind=.function:=by rfl) :
  TC w ad (r + 1) a st as v st₁:=by
 intro A E s μ xs Q hA S hxs k
 have hkind:∀ x∈ps,fd.scope.names.lookup x=some .local∨(fd.scope.names.lookup x=some .cell∧∀ n,((cellsFrom n fd.scope.names []).lookup x).isSome=true):=fun x hx=>(hkind' x hx).imp id fun q=>⟨q,fun n=>cells_some q⟩
 refine xAEEAAAA hf fun hat o c ho hd hcode hct hrec=>?_
 have hxl:xs.length=ps.length:=hxs.length.symm.trans hlen
 have hrec':s.heap.CodeRec fd.code fd.qualname:=by rw [hcode] at hrec ⊢;exact S.base.codeRec hct hrec
 refine wpAny_call (codeAny_call_function hA.room (S.base.get hat ho) hd hco hgen hbody hrec' (hbind xs hxl _ _ _ _ S.base ?_))
 rw [hclo]
 refine wpAny_newFunctionEnv_cells hk ?_ fun env he s₁ X=>?_
 ·intro x hx
  have hm:x.1∈ps:=(List.of_mem_zip hx).1
  rcases hkind x.1 hm with h1 | h1
  ·exact .inl h1
  ·exact .inr ⟨h1.1,h1.2 _⟩
 ·subst he
  refine ⟨S.base.noLimit.keeps X.toInCall.keep,codeAny_func ?_⟩
  refine xEE X.toInCall.same fun h₁ tk₁ q'1=>?_;subst q'1
  have hns:=X.toInCall.ns
  have hkeep:=X.toInCall.keep
  have hL:(callEnvC fd s.heap.objs.size a).locals=s.heap.objs.size:=rfl
  have hsz:s.heap.objs.size≤h₁.objs.size:=Nat.le_of_lt (Heap.Ns.lt (hL ▸ hns))
  have T:Step ad.tabs [] μ s.heap μ h₁:=.grow hsz hkeep
  have S₁:Sim w ad μ st h₁:=S.grow hsz hkeep
  have zip:All2 (LB μ h₁) (ps.zip as) (ps.zip xs):=by
   clear hps hkind hkind' hbind X hns hkeep hxl hlen body k
   induction hxs generalizing ps with
   | nil=>simp;exact .nil
   | cons hr _ ih=>cases ps with
    | nil=>simp;exact .nil
    | cons p ps=>exact .cons ⟨rfl,hr.up S T Loose.nil⟩ (ih (ps:=ps))
  have zn:((ps.zip as).map (·.1)).Nodup:=by rw [List.map_fst_zip (Nat.le_of_eq hlen.symm)];exact hps
  have hi:∀ {b:Addr},s.heap.objs.size≤b→b∉muts μ:=fun hb q=>absurd (muts_lt S q) (Nat.not_lt.mpr hb)
  have ht:∀ {b:Addr},s.heap.objs.size≤b→b∉ad.tabs:=fun hb q=>absurd (S.base.tabs _ q).1 (Nat.not_lt.mpr (Nat.le_trans S.base.size hb))
  have F:Frame ad μ h₁ (callEnvC fd s.heap.objs.size a) (ps.zip as):=by
   refine ⟨hk,hgl,hbl,⟨_,hns,fun x v e kk=>bindL_get zip zn e kk⟩,fun x v e kk=>?_,fun x d hm=>?_,X.apart,hi (Nat.le_refl _),ht (Nat.le_refl _),S.base.size⟩
   ·have hx:x∈ps:=by
     have:=mem_lookup e
     exact (List.of_mem_zip this).1
    refine xEA (bindC_get (m:=fun _=>none) zip zn e (k:=(callEnvC fd s.heap.objs.size a).kindOf) (fun q=>by rcases kk with kk | kk <;> (rw [kk] at q;exact absurd q (by decide)))) fun mv e1 rv=>?_
    rcases hkind x hx with h1 | h1
    ·rcases kk with kk | kk
     ·have:fd.scope.names.lookup x=some .cell:=kk
      rw [h1] at this;exact absurd this (by decide)
     ·have:fd.scope.names.lookup x=some .free:=kk
      rw [h1] at this;exact absurd this (by decide)
    ·refine xE (Option.isSome_iff_exists.mp (h1.2 (s.heap.objs.size + 1))) fun d hd'=>?_
     have z:=X.cell x d hd'
     exact ⟨d,mv,hd',by rw [← e1];exact z,rv⟩
   ·have ab:s.heap.objs.size < d:=X.above x d hm
    have nd:((cellsFrom (s.heap.objs.size + 1) fd.scope.names []).map (·.1)).Nodup:=cellsFrom_names fd.scope.names 0 (s.heap.objs.size + 1) [] [] rfl ▸ hnd
    exact ⟨⟨_,X.cell x d (lookup_of_mem_nodup nd hm)⟩,hi (Nat.le_of_lt ab),ht (Nat.le_of_lt ab),fun _ _=>Nat.le_trans S.base.size (Nat.le_of_lt ab),Nat.ne_of_gt ab⟩
  refine xEEA (body s.heap.objs.size) fun fl locE bdy hv=>?_
  subst hv
  refine bdy _ _ _ μ _ (hA.deeper _) S₁ F fun f h₂ tk₂ μ₂ t₂ S₂ F₂ hf=>?_
  have ends:∀ b∈own (callEnvC fd s.heap.objs.size a),s.heap.objs.size≤b:=fun b hb=>by
   rcases own_mem hb with rfl | ⟨x,hm⟩
   ·exact Nat.le_refl _
   ·exact Nat.le_of_lt (X.above x b hm)
  cases fl with
  | none =>
   have hf:f=.next:=hf
   subst hf
   exact k .none h₂ tk₂ μ₂ (T.trans t₂ fun b hb=>.inr (ends b hb)) S₂ .none
  | some v =>
  refine xEA hf fun mv q'1 rv=>?_;try clear hf;subst q'1
  refine k mv h₂ tk₂ μ₂ (T.trans t₂ fun b hb=>.inr (ends b hb)) S₂ rv
theorem TC.fd {fd:FuncData} {bd:List Stmt} {a:Addr} {ps:List Str} {as:List V} {v:V} (hf:FnFd ad a fd)
  (hbody:fd.body=.stmts bd) (hclo:fd.closure=[]) (hgl:fd.globals=mainGlobals) (hbl:fd.builtins=builtinsNs)
  (hbind:∀ (xs:List Value),xs.length=ps.length→∀ (A:Around) (E:Value→Shared→Prop) (s:Shared) (Q:List (Str × Value)→Shared→Prop),Base w ad s.heap→Q (ps.zip xs) s→wpAny (model prog w) A (bindArgs fd ⟨xs,[]⟩) Q E s)
  (hps:ps.Nodup) (hlen:as.length=ps.length)
  (hkind':∀ x∈ps,fd.scope.names.lookup x=some .local∨fd.scope.names.lookup x=some .cell)
  (hnd:((cellsFrom 0 fd.scope.names []).map (·.1)).Nodup)
  (body:∀ (L:Addr),TR w ad r (callEnvC fd L a) (ps.zip as) st bd v st₁)
  (hco:fd.scope.isCoroutine=false:=by rfl) (hgen:fd.scope.isGenerator=false:=by rfl) (hk:fd.scope.kind=.function:=by rfl) :
  TC w ad (r + 1) a st as v st₁:=TC.fdo hf hbody hclo hgl hbl hbind hps hlen hkind' hnd (fun L=>(body L).o) hco hgen hk
theorem FnAt.fd {nm:Str} {i:Nat} {a:Addr} (hf:FnAt ad nm i a):∃ pm cd,FnFd ad a (fdAt i nm pm cd):=by
 refine xAAEEEEAAA hf fun _ hat o pm cd c ho _ hd r'1=>?_;try clear hf;refine xA r'1 fun q'2 r'3=>?_;subst q'2;refine xA r'3 fun hct hrec=>?_
 exact ⟨pm,.ref c,hat,o,c,ho,hd,rfl,hct,hrec⟩
theorem TC.def {nm:Str} {i:Nat} {a:Addr} {ps:List Str} {as:List V} {v:V} (hf:FnAt ad nm i a)
  (hbind:∀ (pm cd:Value) (xs:List Value),xs.length=ps.length→bindArgs (fdAt i nm pm cd) ⟨xs,[]⟩=pure (ps.zip xs))
  (hps:ps.Nodup) (hlen:as.length=ps.length)
  (hkind':∀ x∈ps,(fScope (stAt i)).names.lookup x=some .local∨(fScope (stAt i)).names.lookup x=some .cell)
  (hnd:((cellsFrom 0 (fScope (stAt i)).names []).map (·.1)).Nodup)
  (body:∀ (pm cd:Value) (L:Addr),TR w ad r (frameEnv i nm pm cd L a) (ps.zip as) st (fBody (stAt i)) v st₁)
  (hco:(fScope (stAt i)).isCoroutine=false:=by rfl) (hgen:(fScope (stAt i)).isGenerator=false:=by rfl) (hk:(fScope (stAt i)).kind=.function:=by rfl) :
  TC w ad (r + 1) a st as v st₁:=by
 refine xEE hf.fd fun pm cd h=>?_
 exact TC.fd h rfl rfl rfl rfl (fun xs hx A E s Q _ q=>by rw [hbind pm cd xs hx];exact wpAny_pure q) hps hlen hkind' hnd (body pm cd) hco hgen hk
theorem eval_Call_Name {f:Str} {p pos:Pos} {args:List Expr}:eval (.Call (.Name f p) args [] pos) env=(do callWith pos (← eval (.Name f p) env) [] (backTo pos (starEach args env)) []):=rfl
theorem TE.callG {f:Str} {p pos:Pos} {e:Expr} {rest:List Expr} {i:Nat} {a:Addr} {as:List V} {v:V} (hf:FnAt ad f i a) (hk:env.kindOf f=some .globalImplicit) (T:TL w ad r env loc st (e :: rest) as st₁) (C:TC w ad r a st₁ as v st₂)
  (he:starEach (e :: rest) env=(false,eval e env) :: starEach rest env:=by rfl) (hd:(f == ("__debug__":Str))=false:=by decide):TE w ad r env loc st (.Call (.Name f p) (e :: rest) [] pos) v st₂:=by
 intro A E s μ Q hA S F h
 refine xAAEEEEAAA hf fun hm hat o pm cd c ho hcls hdat _=>?_
 rw [eval_Call_Name]
 refine wpAny_bind (Name_function_global F.fn hk (loadGlobal_global (F.gl ▸ S.base.ns) hm ?_) hd)
 refine callWith_def hdat (T pos A E s μ _ hA S F fun mvs h₁ tk₁ μ₁ t₁ S₁ F₁ r₁=>⟨S₁.base.get hat ho,?_⟩) he
 exact C A E _ μ₁ mvs _ hA S₁ r₁ fun mv h₂ tk₂ μ₂ t₂ S₂ rv=>h mv h₂ tk₂ μ₂ (t₁.trans0 t₂) S₂ (F₁.up S₁ t₂) rv
theorem TE.callG0 {f:Str} {p pos:Pos} {i:Nat} {a:Addr} {v:V} (hf:FnAt ad f i a) (hk:env.kindOf f=some .globalImplicit) (C:TC w ad r a st [] v st₁)
  (hd:(f == ("__debug__":Str))=false:=by decide):TE w ad r env loc st (.Call (.Name f p) [] [] pos) v st₁:=by
 intro A E s μ Q hA S F h
 refine xAAEEEEAAA hf fun hm hat o pm cd c ho hcls hdat _=>?_
 rw [eval_Call_Name]
 refine wpAny_bind (Name_function_global F.fn hk (loadGlobal_global (F.gl ▸ S.base.ns) hm ?_) hd)
 refine callWith_function (o:=o) (PySem.evalArgs_none ⟨⟨S.base.get hat ho,hdat⟩,?_⟩)
 exact C A E s μ [] _ hA S .nil fun mv h₂ tk₂ μ₂ t₂ S₂ rv=>h mv h₂ tk₂ μ₂ t₂ S₂ (F.up S t₂) rv
theorem TE.callB {f:Str} {id:String} {p pos:Pos} {e:Expr} {rest:List Expr} {as:List V} {v:V} (hb:bootBuiltins f=some (.builtin id)) (hm:ad.mg f=none) (hn:f≠("__name__":Str)) (hk:env.kindOf f=some .globalImplicit) (T:TL w ad r env loc st (e :: rest) as st₁) (C:TO w ad r st₁ (fun xs=>call (.builtin id) xs) as v st₂)
  (he:starEach (e :: rest) env=(false,eval e env) :: starEach rest env:=by rfl) (hpl:∀ env:Env,(backTo pos (starEach rest env)).any (·.1)=false:=by intro _;rfl) (hd:(f == ("__debug__":Str))=false:=by decide):TE w ad r env loc st (.Call (.Name f p) (e :: rest) [] pos) v st₂:=by
 intro A E s μ Q hA S F h
 rw [eval_Call_Name]
 refine xEA (S.base.builtin hn) fun mb nb eb=>?_
 refine wpAny_bind (Name_function_global F.fn hk (loadGlobal_builtin (F.gl ▸ S.base.ns) hm (F.bl ▸ nb) (eb.trans hb) ?_) hd)
 refine callWith_builtin1 (T pos A E s μ _ hA S F fun mvs h₁ tk₁ μ₁ t₁ S₁ F₁ r₁=>?_) he (hpl env)
 exact C A E _ μ₁ mvs _ hA S₁ r₁ fun mv h₂ tk₂ μ₂ t₂ S₂ rv=>h mv h₂ tk₂ μ₂ (t₁.trans0 t₂) S₂ (F₁.up S₁ t₂) rv
theorem Sim.listAt {μ:Mu} {h:Heap} (S:Sim w ad μ st h) {n:Nat} {l:List V} {a d:Addr} (hs:st[n]?=some (.list l)) (hm:μ[n]?=some (a,d)):∃ mvs,h.IsList a mvs∧All2 (RV cPair μ h) l mvs.toList:=by
 refine xAEEA (S.obj n _ _ hm hs) fun _ mvs k hg hv=>?_
 exact ⟨mvs,⟨_,hg,rfl,k,rfl⟩,hv⟩
theorem Sim.listOn {μ:Mu} {h:Heap} (S:Sim w ad μ st h) {n:Nat} {l:List V} {a d:Addr} (hs:st[n]?=some (.list l)) (hm:μ[n]?=some (a,d)) {G:Prop} (g:∀ mvs,h.IsList a mvs→All2 (RV cPair μ h) l mvs.toList→G):G:=by
 refine xEA (S.listAt hs hm) fun mvs hL hv=>?_
 exact g mvs hL hv
theorem TO.len {n:Nat} {l:List V} (hs:st[n]?=some (.list l)) (hl:l.length < 2 ^ 24):TO w ad r st (fun xs=>call (.builtin "len") xs) [.ref n] (.int l.length) st:=by
 intro A E s μ xs Q hA S hx k
 refine hx.e1 fun _ hx=>?_
 refine hx.ref_ fun _ _ hm=>?_
 refine S.listOn hs hm fun mvs hL hv=>?_
 have hsz:mvs.size=l.length:=by have:=hv.length;simpa using this.symm
 refine call_len_list hL (by rw [hsz];omega) ?_
 rw [hsz]
 exact k _ _ _ μ .refl S (.int _ _)
theorem TO.chr {i:Int} (h0:0≤i) (h1:i≤1114111):TO w ad r st (fun xs=>call (.builtin "chr") xs) [.int i] (.str ⟨#[i.toNat]⟩) st:=by
 intro A E s μ xs Q hA S hx k
 refine hx.e1 fun _ hx=>?_
 cases hx
 exact chr_of_range h0 h1 (k _ _ _ μ .refl S (.str _ _))
theorem TO.ord {c:Nat}:TO w ad r st (fun xs=>call (.builtin "ord") xs) [.str ⟨#[c]⟩] (.int c) st:=by
 intro A E s μ xs Q hA S hx k
 refine hx.e1 fun _ hx=>?_
 cases hx
 exact P.ord_of_char (k _ _ _ μ .refl S (.int _ _))
noncomputable def SubOk (w:World) (ad:Adr) (r:Nat) (st:St) (value slice:Expr) (a b v:V) (st':St):Prop:=TO2 w ad r st (subscriptTail value slice) a b v st'
theorem TE.sub {value slice:Expr} {pos:Pos} {a b v:V} (T:TE w ad r env loc st value a st₁) (T':TE w ad r env loc st₁ slice b st₂) (O:SubOk w ad r st₂ value slice a b v st₃):TE w ad r env loc st (.Subscript value slice pos) v st₃:=by
 intro A E s μ Q hA S F h
 refine Subscript_ (T A E s μ _ hA S F fun mv h₁ tk₁ μ₁ t₁ S₁ F₁ r₁=>?_)
 refine T' A E _ μ₁ _ hA S₁ F₁ fun mv₂ h₂ tk₂ μ₂ t₂ S₂ F₂ r₂=>?_
 refine O A E _ μ₂ _ _ _ hA S₂ (r₁.up S₁ t₂ Loose.nil) r₂ fun mv₃ h₃ tk₃ μ₃ t₃ S₃ r₃=>?_
 exact h mv₃ h₃ tk₃ μ₃ ((t₁.trans0 t₂).trans0 t₃) S₃ (F₂.up S₂ t₃) r₃
theorem SubOk.list {value slice:Expr} {n:Nat} {l:List V} {i:Int} {v:V} (hs:st[n]?=some (.list l)) (h0:0≤i) (h1:i < 2 ^ 63) (hv:l[i.toNat]?=some v)
  (hsub:∀ (a:Addr) (u:Tok),subscripted slice false (.ref a) (.int i u)=operate [.ref a,.int i u] (getItem (.ref a) (.int i u))):SubOk w ad r st value slice (.ref n) (.int i) v st:=by
 intro A E s μ x y Q hA S rx ry k
 refine rx.ref_ fun _ _ hm=>?_
 cases ry
 refine S.listOn hs hm fun mvs hL hvs=>?_
 refine xEA (hvs.get _ hv) fun mv e rv=>?_
 exact tail_any hL.typeIs slot_list_getitem.lookup (wpAny_getItem_list hL h0 h1 (by simpa using e) (k mv _ s.toks μ .refl S rv)) (hsub _ _)
end Mine
namespace Mine
open PySem PySem.W PySem.Calls PyProof.Rows Builtin Builtin.ObjectAttr
variable {w : World} {ad : Adr} {r : Nat} {st st₁ st₂ st₃ : St} {env : Env} {loc loc₁ loc₂ loc₃ : Loc}
theorem fragLow (w:World):∀ p∈fragK w,p.1 < 205:=by
 intro p hp
 have:((fragK w).map (·.1)).all (fun a=>decide (a < 205))=true:=rfl
 exact of_decide_eq_true (List.all_eq_true.mp this _ (List.mem_map_of_mem hp))
theorem Base.frag {h:Heap} (B:Base w ad h):(fragK w).In h:=fun a o e=>B.keep a o (fun q=>by rw [B.facts.fragT a q] at e;exact nsome e) (B.facts.frag a o e)
noncomputable def stepsA (K:Frag) (st:Setting) {α:Type}:Nat→Heap→Nat→Sem α→Sem α × Heap × Nat
 | n + 1,h,tk,.rule _ k=>stepsA K st n h tk (k ())
 | n + 1,h,tk,.point _ k=>stepsA K st n h tk (k ())
 | n + 1,h,tk,.ask k=>stepsA K st n h tk (k st)
 | n + 1,h,tk,.fresh k=>stepsA K st n h (tk + 1) (k tk)
 | n + 1,h,tk,.alloc o k=>stepsA K st n (h.push o) tk (k h.objs.size)
 | n + 1,h,tk,.load a p k=>match K.lookup a with
  | some o=>stepsA K st n h tk (k o)
  | none=>(.load a p k,h,tk)
 | _,h,tk,t=>(t,h,tk)
theorem run_stop {M:Model} {α:Type} {Γ:Ctx} {Q:α→Pos→Shared→Prop} {E:Value→Pos→Shared→Prop} {p:Pos} {t t':Sem α} {h h':Heap} {g:Array GenState} {dr:Drawn} {tk tk':Nat} {os:OsState}
  (e:(t,h,tk)=(t',h',tk')) (q:Sem.wp M Γ t' Q E p ⟨h',g,dr,tk',os⟩):Sem.wp M Γ t Q E p ⟨h,g,dr,tk,os⟩:=by cases e;exact q
theorem run_wp {M:Model} {K:Frag} {α:Type} {Γ:Ctx} {Q:α→Pos→Shared→Prop} {E:Value→Pos→Shared→Prop} {p:Pos} (n:Nat) {t t':Sem α} {h h':Heap} {g:Array GenState} {dr:Drawn} {tk tk':Nat} {os:OsState} (X:K.In h)
  (e:stepsA K ⟨M.prog,M.w.params⟩ n h tk t=(t',h',tk')) (q:Sem.wp M Γ t' Q E p ⟨h',g,dr,tk',os⟩):Sem.wp M Γ t Q E p ⟨h,g,dr,tk,os⟩:=by
 induction n generalizing t h tk with
 | zero=>exact run_stop e q
 | succ n ih =>
  cases t with
  | rule _ k=>exact ih (t:=k ()) X e
  | point _ k=>exact ih (t:=k ()) X e
  | ask k=>exact ih (t:=k _) X e
  | fresh k=>exact ih (t:=k tk) (tk:=tk + 1) X e
  | alloc o k=>exact ih (t:=k h.objs.size) (h:=h.push o) (X.keeps fun _ _ e=>Heap.get?_push_of_some _ e) e
  | load a p k =>
   unfold stepsA at e
   cases ha:K.lookup a with
   | some o=>rw [ha] at e;exact ⟨o,X _ _ ha,ih X e⟩
   | none=>rw [ha] at e;exact run_stop e q
  | _=>exact run_stop e q
theorem run_all {M:Model} {K:Frag} {α:Type} {A:Around} {Q:α→Shared→Prop} {E:Value→Shared→Prop} (n:Nat) {t t':Sem α} {h h':Heap} {g:Array GenState} {dr:Drawn} {tk tk':Nat} {os:OsState} (X:K.In h)
  (e:stepsA K ⟨M.prog,M.w.params⟩ n h tk t=(t',h',tk')) (q:wpAny M A t' Q E ⟨h',g,dr,tk',os⟩):wpAny M A t Q E ⟨h,g,dr,tk,os⟩:=fun Γ p hΓ=>run_wp n X e (q Γ p hΓ)
theorem Sim.pairAt {μ:Mu} {h:Heap} (S:Sim w ad μ st h) {n:Nat} {a b:V} {x d:Addr} (hs:st[n]?=some (.pair a b)) (hm:μ[n]?=some (x,d)) :
  ∃ u v k dn,h.get? x=some (pairOf cPair (some d) u v k)∧h.get? d=some { cls:=.type "dict",data:=.dict #[] dn }∧RV cPair μ h a u∧RV cPair μ h b v:=by
 refine xAEEEEAAA (S.obj n _ _ hm hs) fun _ u v k dn hg hd ru rv=>?_
 exact ⟨u,v,k,dn,hg,hd,ru,rv⟩
theorem Sim.pairOn {μ:Mu} {h:Heap} (S:Sim w ad μ st h) {n:Nat} {a b:V} {x d:Addr} (hs:st[n]?=some (.pair a b)) (hm:μ[n]?=some (x,d)) {G:Prop}
  (g:∀ u v k dn,h.get? x=some (pairOf cPair (some d) u v k)→h.get? d=some { cls:=.type "dict",data:=.dict #[] dn }→RV cPair μ h a u→RV cPair μ h b v→G):G:=by
 refine xEEEEAAA (S.pairAt hs hm) fun u v k dn hg hd ru rv=>?_
 exact g u v k dn hg hd ru rv
theorem pairInst {h:Heap} {x d:Addr} {u v:Value} {k dn:Nat} (hg:h.get? x=some (pairOf cPair (some d) u v k)) (hd:h.get? d=some { cls:=.type "dict",data:=.dict #[] dn }) :
  InstAt h x (pairOf cPair (some d) u v k) 203 (some { cls:=.type "dict",data:=.dict #[] dn }):=⟨hg,rfl,rfl,hd⟩
section
variable {prog:Program} {A:Around} {E:Value→Shared→Prop} {s:Shared}
theorem tg_kind:builtinKind "tuple.__getitem__"=some .slot:=by decide +kernel
theorem tg_split:splitId "tuple.__getitem__"=some ("tuple","__getitem__"):=by decide +kernel
theorem tuple_item {u v y:Value} {x d:Addr} {n:Nat} {b:Bool} {t:Tok} {Q:Value→Shared→Prop} (hg:s.heap.get? x=some (pairOf cPair (some d) u v n)) (X:(fragK w).In s.heap) (hy:y=if b then v else u) (h:Q y s) :
  wpAny (model prog w) A (call (.builtin "tuple.__getitem__") [.ref x,.int (if b then 1 else 0) t]) Q E s:=by
 obtain ⟨hh,g,dr,tk,os⟩:=s
 have L0:Looks (model prog w) hh (typeOf (.ref x)) (.ref 203):=(Looks.ld hg).andThen .now
 have L1:Looks (model prog w) hh (isInstance (.ref x) (.type "tuple")) true:=L0.andThen (looks_subIn X (by kernel_rfl))
 refine wpAny_call (codeAny_call_builtin F.slot_tuple_getitem.plain F.entry_tuple_getitem (@check_slot (model prog w) _ _ _ "tuple.__getitem__" "tuple" "__getitem__" (.ref x) [.int (if b then 1 else 0) t] [] _ tg_kind tg_split L1 (F.args_tuple_getitem_2 _ _) ?_))
 dsimp only at hg X
 unfold Builtin.«tuple.__getitem__»
 cases b with
 | false =>
  have Lt:Looks (model prog w) hh (typeOf (.int (if false=true then 1 else 0) t)) (.type "int"):=Looks.now
  have Ls:Looks (model prog w) hh (specialOf (.int (if false=true then 1 else 0) t) (Str.ofString "__index__")) (some (.builtin "int.__index__")):=looks_specialIn X (by kernel_rfl)
  have Li:Looks (model prog w) hh (asIndex (.int (if false=true then 1 else 0) t)) 0:=Looks.of_pure (by rfl)
  repeat lk
  subst hy;exact h
 | true =>
  have Lt:Looks (model prog w) hh (typeOf (.int (if true=true then 1 else 0) t)) (.type "int"):=Looks.now
  have Ls:Looks (model prog w) hh (specialOf (.int (if true=true then 1 else 0) t) (Str.ofString "__index__")) (some (.builtin "int.__index__")):=looks_specialIn X (by kernel_rfl)
  have Li:Looks (model prog w) hh (asIndex (.int (if true=true then 1 else 0) t)) 1:=Looks.of_pure (by rfl)
  repeat lk
  subst hy;exact h
theorem looks_isTypeK {h:Heap} (X:(fragK w).In h):Looks (model prog w) h (isType (.ref 203)) true:=Looks.of_peek X (by kernel_rfl)
theorem looks_madeK {h:Heap} (X:(fragK w).In h):Looks (model prog w) h (Bind.madeBy (.ref 203)) none:=Looks.of_peek X (by kernel_rfl)
theorem isub_pair {Q:Value→Shared→Prop} (X:(fragK w).In s.heap) (h:Q (.bool true) s):wpAny (model prog w) A (call (.builtin "issubclass") [.ref 203,.type "tuple"]) Q E s:=by
 refine wpAny_call (codeAny_call_builtin F.plain_issubclass F.entry_issubclass ?_)
 refine (Looks.of_pure (t:=checkBuiltinCall "issubclass" ⟨[.ref 203,.type "tuple"],[]⟩) (r:=()) (by kernel_rfl)).here ?_
 refine (Looks.of_peek (r:=PySem.Fin.again (.builtin "issubclass.nested" ⟨[.ref 203,.type "tuple",rawInt 0],[]⟩)) X (by kernel_rfl)).here (And.intro (Code.quiet_builtin _ (by decide +kernel)) (codeAny_builtin F.entry_issubclass_nested ?_))
 exact (Looks.of_peek (r:=PySem.Fin.done (.ret (.bool true))) X (by kernel_rfl)).here h
end
section
variable {prog:Program} {A:Around} {E:Value→Shared→Prop} {s:Shared}
theorem get_type {T:String} {name:Str} {v:Value} {b:Bool} {Q:Value→Shared→Prop} (X:(fragK w).In s.heap) (ht:typeOf (.type T)=pure (.type "type")) (hs:Manifest.isStub T=false)
  (e:findCls (fragK w) (.type T) (.type "type") name=some (.val v)) (hh:handedIn v=true) (h:Q v { s with toks:=s.toks + 1 }):wpAny (model prog w) A (getAttr (.type T) name b) Q E s:=by
 have hstub:opaqueClassAbove (.type T)=pure none:=by unfold opaqueClassAbove;dsimp only;rw [hs];rfl
 have L0:Looks (model prog w) s.heap (typeOf (.type T)) (.type "type"):=Looks.of_pure ht
 have hg:findIn (fragK w) (.type "type") "__getattribute__"=some (some (.builtin "type.__getattribute__")):=type_tga
 have LO:Looks (model prog w) s.heap (opaqueClassAbove (.type T)) none:=Looks.of_pure hstub
 exact cls_open X LO L0 hg (looks_hook X (r:=none) (by rfl)) (by show subIn (fragK w) _ _=_;rfl) e
  (wpAny_pure (by show wpAny _ _ (handedOut v) _ _ _;rw [handedOut_of hh];exact wpAny_pure h))
theorem method_ty {T:String} {name:Str} {v:Value} {pl:Sem Bool} {Q:Value × List Value→Shared→Prop} (X:(fragK w).In s.heap) (ht:typeOf (.type T)=pure (.type "type")) (hs:Manifest.isStub T=false)
  (e:findCls (fragK w) (.type T) (.type "type") name=some (.val v)) (hh:handedIn v=true) (h:Q (v,[]) { s with toks:=s.toks + 1 }):wpAny (model prog w) A (getMethod (.type T) name pl) Q E s:=by
 have L0:Looks (model prog w) s.heap (typeOf (.type T)) (.type "type"):=Looks.of_pure ht
 have hg:findIn (fragK w) (.type "type") "__getattribute__"=some (some (.builtin "type.__getattribute__")):=type_tga
 unfold getMethod specialOf
 refine wpAny_bind (wpAny_bind (L0.here ((looks_findIn X hg).here ?_)))
 dsimp only
 rw [if_pos canon_tga]
 exact wpAny_bind (get_type (Q:=fun v s'=>wpAny (model prog w) A (pure (v,[])) Q E s') X ht hs e hh (wpAny_pure h))
end
theorem TE.nameB {f:Str} {p:Pos} {v:Value} (hb:bootBuiltins f=some v) (hm:ad.mg f=none) (hn:f≠("__name__":Str)) (hk:env.kindOf f=some .globalImplicit) (hd:(f == ("__debug__":Str))=false:=by decide):TE w ad r env loc st (.Name f p) (.lit v) st:=by
 intro A E s μ Q hA S F h
 refine xEA (S.base.builtin hn) fun mb nb eb=>?_
 refine Name_function_global F.fn hk (loadGlobal_builtin (F.gl ▸ S.base.ns) hm (F.bl ▸ nb) (eb.trans hb) ?_) hd
 exact h v _ s.toks μ .refl S F (.lit v)
theorem TE.nameG {f:Str} {p:Pos} {v:Value} (hm:ad.mg f=some v) (hk:env.kindOf f=some .globalImplicit) (hd:(f == ("__debug__":Str))=false:=by decide):TE w ad r env loc st (.Name f p) (.lit v) st:=by
 intro A E s μ Q hA S F h
 refine Name_function_global F.fn hk (loadGlobal_global (F.gl ▸ S.base.ns) hm ?_) hd
 exact h v _ s.toks μ .refl S F (.lit v)
noncomputable def Keeps1 (w:World) (fv:Value):Prop:=∀ h,(fragK w).In h→∃ k,(k=Keeper.frame∨k=Keeper.machine∨k=Keeper.boundFrame)∧Looks (model Mine.prog w) h (keeperOf fv) k
theorem Keeps1.of {fv:Value} (hk:keepIn (fragK w) fv=true):Keeps1 w fv:=fun h X=>keeps_K hk h X
theorem Keeps1.type {T:String}:Keeps1 w (.type T):=fun _ _=>⟨.machine,.inr (.inl rfl),Looks.of_pure rfl⟩
theorem Keeps1.builtin {T:String}:Keeps1 w (.builtin T):=fun _ _=>⟨.machine,.inr (.inl rfl),Looks.of_pure rfl⟩
theorem TE.call {f:Str} {p pos:Pos} {e:Expr} {rest:List Expr} {fv:Value} {as:List V} {v:V} (T0:TE w ad r env loc st (.Name f p) (.lit fv) st₁) (hk:Keeps1 w fv) (T:TL w ad r env loc st₁ (e :: rest) as st₂) (C:TO w ad r st₂ (fun xs=>PySem.call fv xs) as v st₃)
  (he:starEach (e :: rest) env=(false,eval e env) :: starEach rest env:=by rfl) (hpl:∀ env:Env,(backTo pos (starEach rest env)).any (·.1)=false:=by intro _;rfl):TE w ad r env loc st (.Call (.Name f p) (e :: rest) [] pos) v st₃:=by
 intro A E s μ Q hA S F h
 rw [eval_Call_Name]
 refine wpAny_bind (T0 A E s μ _ hA S F fun mv h₁ tk₁ μ₁ t₁ S₁ F₁ r₁=>?_)
 obtain rfl:=r₁.litE
 have T':=T pos
 rw [he] at T' ⊢
 refine callWith_of (P:=fun h=>(fragK w).In h) (by show ((false || (backTo pos (starEach rest env)).any (·.1)) || false)=false;rw [hpl];rfl) (fun h X=>hk h X) (evalArgs_plain ?_)
 refine T' A E _ μ₁ _ hA S₁ F₁ fun mvs h₂ tk₂ μ₂ t₂ S₂ F₂ r₂=>⟨S₂.base.frag,?_⟩
 exact C A E _ μ₂ mvs _ hA S₂ r₂ fun mv h₃ tk₃ μ₃ t₃ S₃ rv=>h mv h₃ tk₃ μ₃ ((t₁.trans0 t₂).trans0 t₃) S₃ (F₂.up S₂ t₃) rv
noncomputable def TM (w:World) (ad:Adr) (r:Nat) (st:St) (name:Str) (a:V) (fv:Value) (first:List V):Prop :=
 ∀ (A:Around) (E:Value→Shared→Prop) (s:Shared) (μ:Mu) (x:Value) (pl:Sem Bool) (Q:Value × List Value→Shared→Prop),AOk r A→Sim w ad μ st s.heap→RV cPair μ s.heap a x →
  (∀ tk xs,All2 (RV cPair μ s.heap) first xs→Q (fv,xs) { s with toks:=tk })→wpAny (model prog w) A (getMethod x name pl) Q E s
theorem TE.meth {o e:Expr} {rest:List Expr} {name:Str} {apos pos:Pos} {a:V} {fv:Value} {first as:List V} {v:V} (T0:TE w ad r env loc st o a st₁) (M:TM w ad r st₁ name a fv first) (hk:Keeps1 w fv) (T:TL w ad r env loc st₁ (e :: rest) as st₂) (C:TO w ad r st₂ (fun xs=>PySem.call fv xs) (first++as) v st₃)
  (hE:∃ pl,eval (.Call (.Attribute o name apos) (e :: rest) [] pos) env=(do
   let ov ← eval o env
   standAt apos.atName
   let (f,first) ← holding [ov] (getMethod ov name pl)
   callWith pos f first (backTo pos (starEach (e :: rest) env)) (backToKw pos (keywordEach [] env))):=by exact ⟨_,by with_unfolding_all rfl⟩)
  (he:starEach (e :: rest) env=(false,eval e env) :: starEach rest env:=by rfl) (hpl:∀ env:Env,(backTo pos (starEach rest env)).any (·.1)=false:=by intro _;rfl):TE w ad r env loc st (.Call (.Attribute o name apos) (e :: rest) [] pos) v st₃:=by
 intro A E s μ Q hA S F h
 refine xE hE fun pl hE=>?_
 refine methodCall_KW (pl:=pl) ?_ hE
 refine T0 A E s μ _ hA S F fun mv h₁ tk₁ μ₁ t₁ S₁ F₁ r₁=>?_
 refine M A E _ μ₁ mv pl _ hA S₁ r₁ fun tk₁ xs rxs=>?_
 have T':=T pos
 rw [he] at T'
 show wpAny _ _ (callWith pos fv xs (backTo pos (starEach (e :: rest) env)) []) _ _ _
 rw [he]
 refine callWith_of (P:=fun h=>(fragK w).In h) (by show ((false || (backTo pos (starEach rest env)).any (·.1)) || false)=false;rw [hpl];rfl) (fun h X=>hk h X) (evalArgs_plain ?_)
 refine T' A E _ μ₁ _ hA S₁ F₁ fun mvs h₂ tk₂ μ₂ t₂ S₂ F₂ r₂=>⟨S₂.base.frag,?_⟩
 exact C A E _ μ₂ _ _ hA S₂ ((rxs.imp fun a b r=>r.up S₁ t₂ Loose.nil).append r₂) fun mv h₃ tk₃ μ₃ t₃ S₃ rv=>h mv h₃ tk₃ μ₃ ((t₁.trans0 t₂).trans0 t₃) S₃ (F₂.up S₂ t₃) rv
theorem TE.meth0 {o:Expr} {name:Str} {apos pos:Pos} {a:V} {fv:Value} {first:List V} {v:V} (T0:TE w ad r env loc st o a st₁) (M:TM w ad r st₁ name a fv first) (hk:Keeps1 w fv) (C:TO w ad r st₁ (fun xs=>PySem.call fv xs) first v st₃)
  (hE:∃ pl,eval (.Call (.Attribute o name apos) [] [] pos) env=(do
   let ov ← eval o env
   standAt apos.atName
   let (f,first) ← holding [ov] (getMethod ov name pl)
   callWith pos f first (backTo pos (starEach [] env)) (backToKw pos (keywordEach [] env))):=by exact ⟨_,by with_unfolding_all rfl⟩):TE w ad r env loc st (.Call (.Attribute o name apos) [] [] pos) v st₃:=by
 intro A E s μ Q hA S F h
 refine xE hE fun pl hE=>?_
 refine methodCall_KW (pl:=pl) ?_ hE
 refine T0 A E s μ _ hA S F fun mv h₁ tk₁ μ₁ t₁ S₁ F₁ r₁=>?_
 refine M A E _ μ₁ mv pl _ hA S₁ r₁ fun tk₁ xs rxs=>?_
 show wpAny _ _ (callWith pos fv xs (backTo pos (starEach [] env)) []) _ _ _
 refine callWith_of (P:=fun h=>(fragK w).In h) rfl (fun h X=>hk h X) (evalArgs_nil3 ⟨S₁.base.frag,?_⟩)
 rw [List.append_nil]
 exact C A E _ μ₁ _ _ hA S₁ rxs fun mv h₃ tk₃ μ₃ t₃ S₃ rv=>h mv h₃ tk₃ μ₃ (t₁.trans0 t₃) S₃ (F₁.up S₁ t₃) rv
theorem TB.bool {e:Expr} {b:Bool} (T:TE w ad r env loc st e (.bool b) st₁)
  (hi:isTrue e env (eval e env)=(do let v ← eval e env;standAt e.pos;holding [v] (truthy v)):=by with_unfolding_all rfl):TB w ad r env loc st (isTrue e env (eval e env)) b st₁:=by
 intro A E s μ Q hA S F h
 rw [hi]
 refine wpAny_bind (T A E s μ _ hA S F fun mv h₁ tk₁ μ₁ t₁ S₁ F₁ r₁=>?_)
 obtain rfl:=r₁.boolE
 exact wpAny_bind (wpAny_standAt (wpAny_holding (wpAny_truthy_bool (h h₁ tk₁ μ₁ t₁ S₁ F₁))))
theorem TO2.isNone {a:V} (ha:∀ μ h x,RV cPair μ h a x→x≠.none):TO2 w ad r st (compareOp .Is) a .none (.bool false) st:=by
 intro A E s μ x y Q hA S rx ry k
 obtain rfl:=ry.noneE
 exact is_none_ne (ha _ _ _ rx) (k _ _ s.toks μ .refl S (.bool false))
theorem TE.attrK {value:Expr} {attr:Str} {pos:Pos} {x C:Addr} {v:Value} (T:TE w ad r env loc st value (.lit (.ref x)) st₁)
  (hx:∃ ox od,(fragK w).lookup x=some ox∧ox.cls=.ref C∧notCls ox=true∧(match ox.dict,od with | some dx,some o=>(fragK w).lookup dx=some o | none,none=>True | _,_=>False)∧findObj (fragK w) C od attr=some (.value v))
  (hga:findIn (fragK w) (.ref C) "__getattribute__"=some (some (.builtin "object.__getattribute__"))) (hh:handedIn v=true)
  (he:eval (.Attribute value attr pos) env=(do
   let o ← eval value env
   standAt pos.atName
   let r ← holding [o] (getAttr o attr true)
   letTemporaryGo value o r
   pure r):=by with_unfolding_all rfl):TE w ad r env loc st (.Attribute value attr pos) (.lit v) st₁:=by
 intro A E s μ Q hA S F h
 refine Attribute_any_ ?_ he
 refine T A E s μ _ hA S F fun mv h₁ tk₁ μ₁ t₁ S₁ F₁ r₁=>?_
 obtain rfl:=r₁.litE
 refine xEEAAA hx fun ox od e1 e2 e3 r'1=>?_;refine xA r'1 fun e4 e5=>?_
 have X:=S₁.base.frag
 refine get_value X (I:=⟨X _ _ e1,e2,e3,?_⟩) hga e5 hh ?_
 ·cases hd:ox.dict <;> cases od <;> simp only [hd] at e4 ⊢ <;> first | exact X _ _ e4 | exact e4.elim | trivial
 ·exact h v h₁ _ μ₁ t₁ S₁ F₁ (.lit v)
theorem frag_fn (B:Facts w ad) {a c:Addr} {d:Option Addr} {fd:FuncData} {sl:Array (Option Value)} (e:(fragK w).lookup a=some ⟨.type "function",d,.func fd,sl⟩) (hc:fd.code=.ref c) (hc':((fragK w).lookup c).isSome=true) (hq:codeIn (fragK w) fd.code fd.qualname=true):FnFd ad a fd:=by
 refine ⟨fun q=>?_,_,c,B.frag _ _ e,rfl,hc,fun q=>?_,codeRec_of B.frag hq⟩
 ·rw [B.fragT a q] at e;exact nsome e
 ·rw [B.fragT c q] at hc';exact ft hc'
noncomputable def fdGet:FuncData:=methOf 3 1 "__get__" "_tuplegetter.__get__" (.ref 54) (.none) (.str ("cpy313.importlib.metadata._collections":Str) 286) (.ref 60) (.none) [] (none)
structure Plain (ad:Adr):Prop where
 type:ad.mg "type"=none
 issubclass:ad.mg "issubclass"=none
 tuple:ad.mg "tuple"=none
theorem call_typeRef {A:Around} {E:Value→Shared→Prop} {s:Shared} {x C:Addr} {o:Obj} {Q:Value→Shared→Prop} (hx:s.heap.get? x=some o) (hc:o.cls=.ref C) (hq:Q (.ref C) s) :
  wpAny (model prog w) A (PySem.call (.type "type") [.ref x]) Q E s:=by
 obtain ⟨hh,g,dr,tk,os⟩:=s
 obtain ⟨oc,od,oda,osl⟩:=o
 dsimp only at hx hc
 subst hc
 refine wpAny_call (codeAny_of_tree ?_)
 show wpAny _ _ (callAny (.type "type") _) _ _ _
 refine wpAny_pure ⟨Code.quiet_builtin _ (by decide +kernel),codeAny_builtin F.entry_type_call ?_⟩
 rw [Around.under_plain (weight_type_call_type "type" [.ref x] []) (units_type_call_type "type" [.ref x] [])]
 have L0:Looks (model prog w) hh (typeOf (.ref x)) (.ref C):=(Looks.ld hx).andThen .now
 unfold Builtin.«type.__call__»
 repeat lk
 exact hq
theorem TO.typePair {n:Nat} {a b:V} (hs:st[n]?=some (.pair a b)):TO w ad r st (fun xs=>PySem.call (.type "type") xs) [.ref n] (.lit (.ref 203)) st:=by
 intro A E s μ xs Q hA S hx k
 refine hx.e1 fun _ hx=>?_
 refine hx.ref_ fun _ _ hm=>?_
 refine S.pairOn hs hm fun u v j dn hg hd ru rv=>?_
 exact call_typeRef hg rfl (k _ _ s.toks μ .refl S (.lit _))
theorem TO.isub:TO w ad r st (fun xs=>PySem.call (.builtin "issubclass") xs) [.lit (.ref 203),.lit (.type "tuple")] (.bool true) st:=by
 intro A E s μ xs Q hA S hx k
 refine hx.e2 fun _ _ hx hy=>?_
 cases hx;obtain rfl:=hy.litE
 exact isub_pair S.base.frag (k _ _ s.toks μ .refl S (.bool true))
theorem TO.item {n:Nat} {a b:V} {c:Bool} {t:Tok} (hs:st[n]?=some (.pair a b)):TO w ad r st (fun xs=>PySem.call (.builtin "tuple.__getitem__") xs) [.ref n,.lit (.int (if c then 1 else 0) t)] (if c then b else a) st:=by
 intro A E s μ xs Q hA S hx k
 refine hx.e2 fun _ _ hx hy=>?_
 obtain rfl:=hy.litE
 refine hx.ref_ fun _ _ hm=>?_
 refine S.pairOn hs hm fun u v j dn hg hd ru rv=>?_
 refine tuple_item hg S.base.frag rfl (k _ _ s.toks μ .refl S ?_)
 cases c
 ·exact ru
 ·exact rv
theorem TM.tupItem:TM w ad r st (Str.ofString "__getitem__") (.lit (.type "tuple")) (.builtin "tuple.__getitem__") []:=by
 intro A E s μ x pl Q hA S hx k
 obtain rfl:=hx.litE
 exact method_ty (T:="tuple") (v:=.builtin "tuple.__getitem__") S.base.frag (by kernel_rfl) (by kernel_rfl) (by kernel_rfl) (by kernel_rfl) (k _ [] .nil)
theorem TC.get {n:Nat} {a b:V} {c:Bool} (P:Plain ad) (hs:st[n]?=some (.pair a b)):TC w ad (r + 1) 61 st [.lit (.ref (if c then 175 else 172)),.ref n,.lit (.ref 203)] (if c then b else a) st:=by
 intro A E s μ xs Q hA S hx k
 refine TC.fd (fd:=fdGet) (bd:=fBody (methAt 3 1)) (ps:=["self","obj","objtype"]) (frag_fn S.base.facts (a:=61) (c:=60) (by rfl) rfl (by rfl) (by rfl)) rfl rfl rfl rfl ?bind (by decide) rfl (by decide) (by decide) ?body rfl rfl rfl A E s μ xs Q hA S hx k
 case bind =>
  intro xs hx
  refine len3 (fun x y z=>?_) xs hx
  ·intro A E s Q B q
   exact (Looks.of_peek B.frag (by kernel_rfl)).here q
 case body =>
  intro L
  refine TR.cons (TS1.ifF (TB.cmp (TE.name rfl (.inl rfl)) TE.cnone (TO2.isNone ?_)) TS.nil) ?_
  ·rintro μ h x ⟨⟩ e;cases e
  refine TR.cons (TS1.ifF (TB.not (b:=true) (TB.bool (TE.call (TE.nameB (by rfl) P.issubclass (by decide) rfl) Keeps1.builtin (TL.cons (ns rfl) (TE.call (TE.nameB (by rfl) P.type (by decide) rfl) Keeps1.type (TL.cons (ns rfl) (TE.name rfl (.inl rfl)) TL.nil) (TO.typePair hs)) (TL.cons (ns rfl) (TE.nameB (by rfl) P.tuple (by decide) rfl) TL.nil)) TO.isub))) TS.nil) ?_
  refine TR.ret (TE.meth (first:=[]) (TE.nameB (by rfl) P.tuple (by decide) rfl) TM.tupItem Keeps1.builtin (TL.cons (ns rfl) (TE.name rfl (.inl rfl)) (TL.cons (ns rfl) (TE.attrK (C:=78) (v:=.int (if c then 1 else 0) (if c then 488 else 478)) (TE.name rfl (.inl rfl)) ?_ (by kernel_rfl) (by kernel_rfl)) TL.nil)) (TO.item hs))
  cases c
  ·exact ⟨_,some _,by rfl,rfl,rfl,(rfl:(fragK w).lookup 171=some _),by rfl⟩
  ·exact ⟨_,some _,by rfl,rfl,rfl,(rfl:(fragK w).lookup 174=some _),by rfl⟩
structure OwnGA (w:World) (C:Addr) (T gi:String):Prop where
 find:findIn (fragK w) (.ref C) "__getattribute__"=some (some (.builtin gi))
 hook:findIn (fragK w) (.ref C) "__getattr__"=some none
 entry:entryFor table gi=some Builtin.«object.__getattribute__»
 plain:plainId gi=true
 bind:∀ self,bindSpecial (.builtin gi) self=pure (.builtin gi,[self])
 other:(Value.builtin gi == .builtin "object.__getattribute__")=false
 kind:builtinKind gi=some .slot
 split:splitId gi=some (T,"__getattribute__")
 args:∀ a b,argsOk gi ⟨[a,b],[]⟩
 sub:subIn (fragK w) (.ref C) (.type T)=some true
theorem ownPair:OwnGA w 203 "tuple" "tuple.__getattribute__" where
 find:=by kernel_rfl
 hook:=by kernel_rfl
 entry:=PySem.F.entry_tuple_ga
 plain:=by decide +kernel
 bind:=fun self=>by kernel_rfl
 other:=by decide +kernel
 kind:=by decide +kernel
 split:=by decide +kernel
 args:=fun a b=>by unfold argsOk;kernel_rfl
 sub:=by kernel_rfl
theorem entry_dd_ga:entryFor table "collections.defaultdict.__getattribute__"=some Builtin.«object.__getattribute__» :=
 entryFor_alias (id':="object.__getattribute__") (by kernel_rfl) (by first | rfl | decide +kernel) (by decide +kernel) (by kernel_rfl)
theorem ownFdd:OwnGA w 108 "collections.defaultdict" "collections.defaultdict.__getattribute__" where
 find:=by kernel_rfl
 hook:=by kernel_rfl
 entry:=entry_dd_ga
 plain:=by decide +kernel
 bind:=fun self=>by kernel_rfl
 other:=by decide +kernel
 kind:=by decide +kernel
 split:=by decide +kernel
 args:=fun a b=>by unfold argsOk;kernel_rfl
 sub:=by kernel_rfl
section
variable {prog:Program} {A:Around} {E:Value→Shared→Prop} {s:Shared} {x C:Addr} {T gi:String} {ox:Obj} {od:Option Obj} {name:Str} {ex fill:Bool} {Q:Value→Shared→Prop}
theorem own_open (G:OwnGA w C T gi) (X:(fragK w).In s.heap) (I:InstAt s.heap x ox C od)
  (h:wpAny (model prog w) A.in1 (Builtin.«object.__getattribute__» ⟨[.ref x,.str name s.toks],[]⟩)
   (fun fin s'=>match fin with | .done (.ret v)=>wpAny (model prog w) A (handedOut v) Q E s' | _=>False) (fun _ _=>False) { s with toks:=s.toks + 1 }) :
  wpAny (model prog w) A (getAttr (.ref x) name ex) Q E s:=by
 obtain ⟨hh,g,d,t,os⟩:=s
 dsimp only at X I h ⊢
 have L0:=I.type (M:=model prog w)
 have L1:=looks_findIn (M:=model prog w) X G.find
 have L2:=looks_findIn (M:=model prog w) X G.hook
 unfold getAttr getAttrBy
 refine wpAny_bind (wpAny_mkText (wpAny_holding (wpAny_bind (L0.at (wpAny_bind (L1.at ?_))))))
 dsimp only
 rw [G.other,Bool.and_false,if_neg Bool.false_ne_true]
 unfold getAttrByItsOwn hookBefore
 rw [if_pos (show onTheHeap (Value.ref C)=true from rfl)]
 refine wpAny_bind (L2.at (wpAny_bind (wpAny_attempt (wpAny_holding ?_))))
 unfold callGetattribute
 rw [show (ex && onTheHeap (Value.builtin gi))=false from Bool.and_false _,if_neg (by decide)]
 unfold boundAndCalled
 rw [G.bind]
 refine wpAny_bind (wpAny_pure ?_)
 show wpAny _ _ (call (.builtin gi) [.ref x,.str name t]) _ _ _
 refine wpAny_call (codeAny_call_builtin G.plain G.entry ?_)
 refine @check_slot (model prog w) _ _ { heap:=hh,gens:=g,drawn:=d,toks:=t + 1,os:=os } gi T "__getattribute__" (.ref x) [.str name t] [] _ G.kind G.split (L0.andThen (looks_subIn X G.sub)) (G.args _ _) ?_
 refine wpAny_mono h (fun fin s' z=>?_) fun _ _ z=>z.elim
 rcases fin with (_ | _ | _ | _) | _ <;> first | exact z | exact z.elim
theorem own_bind {g a:Value} (G:OwnGA w C T gi) (X:(fragK w).In s.heap) (I:InstAt s.heap x ox C od) (hf:findObj (fragK w) C od name=some (.bind g a))
  (h:wpAny (model prog w) A.in1 (call g [a,.ref x,.ref C]) (fun v s'=>wpAny (model prog w) A (handedOut v) Q E s') (fun _ _=>False) { s with toks:=s.toks + 1 }) :
  wpAny (model prog w) A (getAttr (.ref x) name ex) Q E s:=by
 refine own_open G X I ?_
 obtain ⟨hh',gg,d,t,os⟩:=s
 have L0:=I.type (M:=model prog w)
 have L1:=looks_find (M:=model prog w) X I hf
 refine wpAny_bind (wpAny_pure (wpAny_bind (wpAny_pure (wpAny_bind (L0.at (wpAny_bind (L1.at ?_)))))))
 show wpAny _ _ (holding [a] (call g [a,.ref x,.ref C]) >>= fun v=>ret v) _ _ _
 exact wpAny_bind (wpAny_holding (wpAny_mono h (fun v s' z=>wpAny_pure z) fun _ _ z=>z.elim))
end
theorem AOk.in1 {A:Around} (h:AOk (r + 1) A):AOk r A.in1:=by
 refine ⟨h.handled,h.frames,?_,?_⟩
 ·have:=h.depth;show A.depth + _≤_;omega
 ·have:=h.units;show A.units + 1 + _≤_;omega
theorem RV.handed {μ:Mu} {h:Heap} {v:V} {mv:Value} (rv:RV cPair μ h v mv) (hv:∀ x,v≠.lit x):handedIn mv=true:=by
 cases rv <;> first | rfl | exact absurd rfl (hv _)
theorem TE.part {value:Expr} {pos:Pos} {n:Nat} {a b:V} {nm:Str} (c:Bool) (P:Plain ad) (T:TE w ad (r + 2) env loc st value (.ref n) st₁) (hs:st₁[n]?=some (.pair a b)) (hnm:nm=if c then Str.ofString "value" else Str.ofString "name")
  (hv:∀ x,(if c then b else a)≠.lit x)
  (he:eval (.Attribute value nm pos) env=(do
   let o ← eval value env
   standAt pos.atName
   let r ← holding [o] (getAttr o nm true)
   letTemporaryGo value o r
   pure r):=by with_unfolding_all rfl):TE w ad (r + 2) env loc st (.Attribute value nm pos) (if c then b else a) st₁:=by
 intro A E s μ Q hA S F h
 refine Attribute_any_ ?_ he
 refine T A E s μ _ hA S F fun mv h₁ tk₁ μ₁ t₁ S₁ F₁ r₁=>?_
 refine r₁.ref_ fun _ _ hm=>?_
 refine S₁.pairOn hs hm fun u v j dn hg hd ru rv=>?_
 refine own_bind (g:=.ref 61) (a:=.ref (if c then 175 else 172)) ownPair S₁.base.frag (pairInst hg hd) (by subst hnm;cases c <;> kernel_rfl) ?_
 refine TC.get (r:=r) (c:=c) P hs A.in1 _ _ μ₁ _ _ hA.in1 S₁ (.cons (.lit _) (.cons (.ref hm) (.cons (.lit _) .nil))) fun mv h₂ tk₂ μ₂ t₂ S₂ r₂=>?_
 exact handed_on (r₂.handed hv) (h mv h₂ tk₂ μ₂ (t₁.trans0 t₂) S₂ (F₁.up S₁ t₂) r₂)
theorem Sim.fddAt {μ:Mu} {h:Heap} (S:Sim w ad μ st h) {n:Nat} {nodes:Bool} {es:List (V × V)} {fr:Option Nat} {x d:Addr} (hs:st[n]?=some (.fdd nodes es fr)) (hm:μ[n]?=some (x,d)) :
  d≠x∧∃ ens k fac dn des,h.get? x=some (fddOf d ens k fac)∧All2 (EntIs w μ h) es ens.toList∧((es.map (·.1)).Nodup∧k=ens.size)∧FacIs ad h nodes fac∧h.get? d=some { cls:=.type "dict",data:=.dict des dn }∧FroIs w μ h fr des:=by
 refine xAEEEAAAAEEA (S.obj n _ _ hm hs) fun e ens k fac hg he hn hf dn des hd hr=>?_
 exact ⟨e,ens,k,fac,dn,des,hg,he,hn,hf,hd,hr⟩
theorem Sim.fddOn {μ:Mu} {h:Heap} (S:Sim w ad μ st h) {n:Nat} {nodes:Bool} {es:List (V × V)} {fr:Option Nat} {x d:Addr} (hs:st[n]?=some (.fdd nodes es fr)) (hm:μ[n]?=some (x,d)) {G:Prop}
  (g:∀ (_:d≠x) (ens:Array DictEntry) (k:Nat) (fac:Value) (dn:Nat) (des:Array DictEntry),h.get? x=some (fddOf d ens k fac)→All2 (EntIs w μ h) es ens.toList→((es.map (·.1)).Nodup∧k=ens.size)→FacIs ad h nodes fac→h.get? d=some { cls:=.type "dict",data:=.dict des dn }→FroIs w μ h fr des→G):G:=by
 refine xA (S.fddAt hs hm) fun e r'1=>?_;refine xEEEE r'1 fun ens k fac dn r'2=>?_;refine xEAAA r'2 fun des hg he hn r'3=>?_;refine xAA r'3 fun hf hd hr=>?_
 exact g e ens k fac dn des hg he hn hf hd hr
theorem fddInst {h:Heap} {x d:Addr} {ens des:Array DictEntry} {k dn:Nat} {fac:Value} (hg:h.get? x=some (fddOf d ens k fac)) (hd:h.get? d=some { cls:=.type "dict",data:=.dict des dn }) :
  InstAt h x (fddOf d ens k fac) 108 (some { cls:=.type "dict",data:=.dict des dn }):=⟨hg,rfl,rfl,hd⟩
theorem dg_kind:builtinKind "dict.__getitem__"=some .method:=by decide +kernel
section
variable {prog:Program} {A:Around} {E:Value→Shared→Prop} {s:Shared} {x d:Addr} {ens des:Array DictEntry} {k dn:Nat} {fac:Value}
theorem tail_fdd {value slice:Expr} {i:Value} {Q:Value→Shared→Prop} (X:(fragK w).In s.heap) (hg:s.heap.get? x=some (fddOf d ens k fac)) (hd:s.heap.get? d=some { cls:=.type "dict",data:=.dict des dn })
  (hsub:subscripted slice false (.ref x) i=operate [.ref x,i] (getItem (.ref x) i))
  (h:wpAny (model prog w) A (call (.builtin "dict.__getitem__") [.ref x,i]) Q E s):wpAny (model prog w) A (subscriptTail value slice (.ref x) i) Q E s:=by
 have I:=fddInst hg hd
 have L1:Looks (model prog w) s.heap (specialOf (.ref x) "__getitem__") (some (.builtin "dict.__getitem__")):=I.type.andThen (looks_findIn X (by kernel_rfl))
 unfold subscriptTail getitemInPython
 refine wpAny_bind (wpAny_bind (L1.here ?_))
 refine wpAny_pure ?_
 rw [hsub]
 refine wpAny_bind (wpAny_operating ?_)
 have fin:wpAny (model prog w) A (call (.builtin "dict.__getitem__") [.ref x,i]) (fun r s₃=>wpAny (model prog w) A (letTemporaryGo value (.ref x) r >>= fun _=>pure r) Q E s₃) E s :=
  wpAny_mono h (fun r s₃ h₃=>wpAny_bind (wpAny_letTemporaryGo (wpAny_pure h₃))) fun _ _ e=>e
 unfold getItem sequenceKey
 refine wpAny_holding (wpAny_bind (wpAny_bind (I.type.here ?_)))
 refine wpAny_bind ((anyM_none X (by kernel_rfl)).here ?_)
 rw [if_pos (show (!false)=true from rfl)]
 refine wpAny_pure (wpAny_bind ?_)
 unfold callSpecial?
 refine wpAny_bind (L1.here (wpAny_holding ?_))
 rw [show bindSpecial (.builtin "dict.__getitem__") (.ref x)=pure (.builtin "dict.__getitem__",[.ref x]) from slot_dict_getitem.bind _]
 refine wpAny_bind (wpAny_pure (wpAny_bind (wpAny_mono fin (fun r s₃ h₃=>wpAny_pure ?_) fun _ _ e=>e)))
 exact wpAny_pure h₃
end
structure KI (w:World) {K:Type} [DecidableEq K] (knd:KeyKind Mine.prog w K) (inj:K→V):Prop where
 of:∀ k mv hs,KeyIs w (inj k) mv hs→knd.is k mv=true∧hs=knd.hash k
 rv:∀ μ h k mv,RV cPair μ h (inj k) mv→KeyIs w (inj k) mv (knd.hash k)
 inj:∀ a b,inj a=inj b→a=b
section
variable {K:Type} [DecidableEq K] {knd:KeyKind Mine.prog w K} {inj:K→V} {A:Around} {E:Value→Shared→Prop} {s:Shared}
theorem dictGet_raw {d:Addr} {o:Obj} {es:Array DictEntry} {ep:Nat} {k:K} {key:Value} {Q:Option Value→Shared→Prop} (hkey:knd.is k key=true) (ho:s.heap.get? d=some o) (hd:o.data=.dict es ep) (hk:KeysOf knd es)
  (h:Q (findBy knd.is es k) { s with toks:=s.toks + 1 }):wpAny (model Mine.prog w) A (dictGet d key) Q E s:=by
 unfold dictGet
 refine wpAny_holding (wpAny_bind (knd.pyHash hkey (wpAny_bind (wpAny_dictFind_of (s:={ s with toks:=s.toks + 1 }) hkey ho hd hk ?_))))
 rw [findBy_of_findIdx?] at h
 cases hi:es.findIdx? fun e=>knd.is k e.key with
 | none=>rw [hi] at h;exact wpAny_pure h
 | some i=>rw [hi] at h;exact wpAny_bind (wpAny_dictEntries (s:={ s with toks:=s.toks + 1 }) ho hd (wpAny_pure h))
noncomputable def onV (inj:K→V) (kvs:List (K × V)):List (V × V):=kvs.map fun p=>(inj p.1,p.2)
noncomputable def vAt (kvs:List (K × V)) (k:K):Option V:=(kvs.find? fun p=>p.1=k).map (·.2)
theorem ents_keys (I:KI w knd inj) {μ:Mu} {h:Heap} {kvs:List (K × V)} {ens:Array DictEntry} (H:All2 (EntIs w μ h) (onV inj kvs) ens.toList):KeysOf knd ens:=by
 intro e he
 have he':e∈ens.toList:=by simpa using he
 clear he
 generalize ens.toList=l at H he'
 induction kvs generalizing l with
 | nil=>cases H;cases he'
 | cons p kvs ih =>
  refine xEEA H.uncons fun _ _ q'1 r'2=>?_;subst q'1;refine xA r'2 fun h1 h2=>?_
  rcases List.mem_cons.mp he' with rfl | q
  ·exact ⟨p.1,I.of _ _ _ h1.1⟩
  ·exact ih _ h2 q
theorem ents_find (I:KI w knd inj) {μ:Mu} {h:Heap} {kvs:List (K × V)} {ens:Array DictEntry} (H:All2 (EntIs w μ h) (onV inj kvs) ens.toList) (k:K) :
  (vAt kvs k=none∧findBy knd.is ens k=none)∨∃ v mv,vAt kvs k=some v∧findBy knd.is ens k=some mv∧RV cPair μ h v mv:=by
 have e0:findBy knd.is ens k=(ens.toList.find? fun e=>knd.is k e.key).map (·.val):=by simp [findBy]
 rw [e0]
 unfold vAt
 generalize ens.toList=l at H
 clear e0
 induction kvs generalizing l with
 | nil=>cases H;exact .inl ⟨rfl,rfl⟩
 | cons p kvs ih =>
  refine xEEA H.uncons fun e l' q'1 r'2=>?_;subst q'1;refine xA r'2 fun h1 h2=>?_
  have:=I.of _ _ _ h1.1
  rw [List.find?_cons,List.find?_cons]
  have hk:knd.is k e.key=decide (k=p.1):=KeyKind.is_eq_decide this.1 k
  by_cases hp:p.1=k
  ·rw [hk,decide_eq_true hp,decide_eq_true hp.symm]
   exact .inr ⟨p.2,e.val,rfl,rfl,h1.2⟩
  ·rw [hk,decide_eq_false hp,decide_eq_false (fun q=>hp q.symm)]
   exact ih _ h2
end
theorem check_meth {M:Model} {A:Around} {E:Value→Shared→Prop} {s:Shared} {i owner n:String} {self:Value} {rest:List Value} {kw:List (Str × Value)} {Q:Unit→Shared→Prop}
  (hk:builtinKind i=some .method) (hs:splitId i=some (owner,n)) (hi:Looks M s.heap (isInstance self (.type owner)) true) (ha:argsOk i ⟨self :: rest,kw⟩) (q:Q () s) :
  wpAny M A (checkBuiltinCall i ⟨self :: rest,kw⟩) Q E s:=by
 simp only [checkBuiltinCall,hk,hs]
 refine wpAny_bind (hi.here ?_)
 simp only [Bool.not_true,Bool.false_eq_true,if_false]
 cases hsig:Manifest.signature? i with
 | none=>exact wpAny_pure q
 | some sig =>
  simp only [argsOk,hsig] at ha
  have h2:Bind.checkArgs i sig ⟨self :: rest,kw⟩=pure ():=ha
  show wpAny M A (Bind.checkArgs i sig ⟨self :: rest,kw⟩) Q E s
  rw [h2];exact wpAny_pure q
theorem Base.above {h:Heap} (B:Base w ad h):204 < ad.n0:=Heap.lt_size (B.facts.frag 204 _ (by rfl))
theorem Sim.notSys {μ:Mu} {h:Heap} (S:Sim w ad μ st h) {n:Nat} {x d:Addr} (hm:μ[n]?=some (x,d)):(x == sysModules)=false:=by
 have h1:=S.high x (mem_muts.mpr ⟨n,_,hm,.inl rfl⟩)
 have h2:=S.base.above
 rw [beq_eq_false_iff_ne]
 intro e
 have h3:x=1:=e
 subst h3
 exact absurd (Nat.lt_of_lt_of_le h2 h1) (by decide)
theorem dg_split:splitId "dict.__getitem__"=some ("dict","__getitem__"):=by decide +kernel
theorem dg_args (a b:Value):argsOk "dict.__getitem__" ⟨[a,b],[]⟩:=by unfold argsOk;kernel_rfl
section
variable {K:Type} [DecidableEq K] {knd:KeyKind Mine.prog w K} {inj:K→V} {A:Around} {E:Value→Shared→Prop} {s:Shared} {x d:Addr} {ens des:Array DictEntry} {n dn:Nat} {fac:Value}
theorem call_dictget {k:K} {key:Value} {kvs:List (K × V)} {μ:Mu} {Q:Value→Shared→Prop} (X:(fragK w).In s.heap) (hx:(x == sysModules)=false) (hg:s.heap.get? x=some (fddOf d ens n fac)) (hd:s.heap.get? d=some { cls:=.type "dict",data:=.dict des dn })
  (I:KI w knd inj) (H:All2 (EntIs w μ s.heap) (onV inj kvs) ens.toList) (hkey:knd.is k key=true)
  (hit:∀ v mv,vAt kvs k=some v→RV cPair μ s.heap v mv→Q mv { s with toks:=s.toks + 1 })
  (miss:vAt kvs k=none→wpAny (model Mine.prog w) A.in1 (call (.ref 98) [.ref x,key]) Q E { s with toks:=s.toks + 1 }) :
  wpAny (model Mine.prog w) A (call (.builtin "dict.__getitem__") [.ref x,key]) Q E s:=by
 obtain ⟨hh,g,dr,tk,os⟩:=s
 dsimp only at X hg hd H hit miss
 have In:=fddInst hg hd
 have L0:=In.type (M:=model Mine.prog w)
 have L1:Looks (model Mine.prog w) hh (isInstance (.ref x) (.type "dict")) true:=L0.andThen (looks_subIn X (by kernel_rfl))
 have L2:Looks (model Mine.prog w) hh (specialOf (.ref x) "__missing__") (some (.ref 98)):=L0.andThen (looks_findIn X (by kernel_rfl))
 have L3:=bind_fn (M:=model Mine.prog w) X (f:=98) (.ref x) (by kernel_rfl)
 refine wpAny_call (codeAny_call_builtin slot_dict_getitem.plain entry_dict_getitem ?_)
 refine @check_meth (model Mine.prog w) _ _ _ "dict.__getitem__" "dict" "__getitem__" (.ref x) [key] [] _ dg_kind dg_split L1 (dg_args _ _) ?_
 unfold Builtin.«dict.__getitem__»
 have hK:=ents_keys I H
 repeat first | with_reducible refine dictGet_raw (knd:=knd) (k:=k) hkey hg rfl hK ?_ | lk
 rcases ents_find I H k with ⟨e1,e2⟩ | ⟨v,mv,e1,e2,rv⟩
 ·rw [e2]
  repeat lk
  rw [if_neg (by rw [hx];decide)]
  have miss:wpAny (model Mine.prog w) A.in1 (call (.ref 98) ([.ref x]++[key]) []) Q E { heap:=hh,gens:=g,drawn:=dr,toks:=tk + 1,os:=os }:=miss e1
  iterate 15 lk
  refine wpAny_mono miss (fun v s' z=>?_) (fun _ _ z=>z)
  repeat lk
  exact z
 ·rw [e2]
  repeat lk
  exact hit v mv e1 rv
end
theorem mro_super:mroOf (.type "super")=pure [.type "super",.type "object"]:=by rw [mroOf_type];kernel_rfl
theorem slot_super_init:Slot "super" "__init__" "super.__init__" :=
 Slot.of (by rw [typeLookup_type,builtinLookup_eq_fast];kernel_rfl) (owner:="super") (n:="__init__") (by decide +kernel) (by decide +kernel) (by decide +kernel) (.inl (by decide +kernel)) (by rw [isSubtype_type];kernel_rfl)
theorem called_super:TypeCalled "super" "super.__new__" "super.__init__" :=
 ⟨by decide +kernel,by decide +kernel,⟨_,_,mro_super⟩,madeBy_type mro_super (by rw [typeLookup_type,builtinLookup_eq_fast];kernel_rfl) (by decide +kernel),by decide +kernel,by rw [isSubtype_type];kernel_rfl,slot_super_init⟩
theorem newCall_super (a b:Value):checkBuiltinCall "super.__new__" ⟨[.type "super",a,b],[]⟩=pure ():=by kernel_rfl
theorem entry_super_new:entryFor table "super.__new__"=some Builtin.«super.__new__»:=entryFor_of_tree (by kernel_rfl)
theorem entry_super_init:entryFor table "super.__init__"=some Builtin.«super.__init__»:=entryFor_of_tree (by kernel_rfl)
theorem args_super_init (a b c:Value):argsOk "super.__init__" ⟨[a,b,c],[]⟩:=by unfold argsOk;kernel_rfl
noncomputable abbrev supObj (a b c:Value):Obj:={ cls:=.type "super",data:=.fields #[a,b,c] }
theorem meets_super_new (a b:Value):Meets (Builtin.«super.__new__» ⟨[.type "super",a,b],[]⟩) (fun _ R s=>R (.ok (.ret (.ref s.heap.objs.size))) { s with heap:=s.heap.push (supObj .none .none .none) }) :=
 .of_wp fun prog w A R s h=>by
  unfold Builtin.«super.__new__»
  obtain ⟨hp,g,d,tk,os⟩:=s
  repeat lk
  exact ⟨_,rfl,h⟩
section
variable {prog:Program} {A:Around} {E:Value→Shared→Prop} {s:Shared} {x q:Addr} {ox:Obj} {od:Option Obj} {Q:Value→Shared→Prop}
theorem looks_isTypeC {h:Heap} {C:Addr} {o:Obj} {c:ClassData} (X:(fragK w).In h) (e:(fragK w).lookup C=some o) (hc:o.data=.cls c):Looks (model prog w) h (isType (.ref C)) true:=by
 intro A Q E s k q
 obtain ⟨hh,g,dr,tk,os⟩:=s
 have L3:=(X.keeps k) _ _ e
 obtain ⟨oc,od,oda,osl⟩:=o
 dsimp only at hc
 subst hc
 unfold isType
 dsimp only at L3
 repeat lk
 exact q
theorem looks_notType {h:Heap} {x:Addr} {o:Obj} (e:h.get? x=some o) (hc:notCls o=true):Looks (model prog w) h (isType (.ref x)) false:=by
 intro A Q E s k q
 obtain ⟨hh,g,dr,tk,os⟩:=s
 have L3:=k _ _ e
 obtain ⟨oc,od,oda,osl⟩:=o
 cases oda <;> first | (exact absurd hc Bool.false_ne_true) | (unfold isType;dsimp only at L3;(repeat lk);exact q)
theorem super_init_call (X:(fragK w).In s.heap) (I:InstAt s.heap x ox 108 od) (hq:s.heap.get? q=some (supObj .none .none .none))
  (h:∀ h',Heap.SameBut q s.heap h'→h'.get? q=some (supObj (.ref 108) (.ref x) (.ref 108))→Q .none { s with heap:=h' }) :
  wpAny (model prog w) A (call (.builtin "super.__init__") [.ref q,.ref 108,.ref x]) Q E s:=by
 refine wpAny_call_entry (T:="super") slot_super_init ⟨_,hq,rfl⟩ entry_super_init ?_ (args_super_init _ _ _)
 obtain ⟨hp,g,dr,tk,os⟩:=s
 have L0:=I.type (M:=model prog w)
 have L1:Looks (model prog w) hp (isType (.ref 108)) true:=looks_isTypeC X (o:=((fragK w).lookup 108).get!) (by kernel_rfl) rfl
 have L2:Looks (model prog w) hp (isType (.ref x)) false:=looks_notType I.at_ I.no
 have L3:Looks (model prog w) hp (isSubtype (.ref 108) (.ref 108)) true:=looks_subIn X (by kernel_rfl)
 dsimp only at L0 hq
 unfold Builtin.«super.__init__»
 repeat first | (with_reducible apply wpAny_setField_rec;· (exact hq)) | lk
 case hk=>decide
 case h =>
  intro h1 e1 s1
  refine wpAny_bind (wpAny_setField_rec e1 (by exact Nat.le_succ _) fun h2 e2 s2=>wpAny_bind (wpAny_setField_rec e2 (by exact Nat.lt_succ_self _) fun h3 e3 s3=>wpAny_pure ⟨_,rfl,h h3 ((s1.trans s2).trans s3) e3⟩))
theorem looks_tcSuper {h:Heap} (X:(fragK w).In h) (v:Value):Looks (model prog w) h (checkTypeCall "super" ⟨[.ref 108,v],[]⟩) ():=Looks.of_peek X (by kernel_rfl)
theorem super_new (X:(fragK w).In s.heap) (I:InstAt s.heap x ox 108 od)
  (h:∀ h' q,(∀ b o,s.heap.get? b=some o→h'.get? b=some o)→h'.get? q=some (supObj (.ref 108) (.ref x) (.ref 108))→s.heap.objs.size≤q→s.heap.objs.size≤h'.objs.size→Q (.ref q) { s with heap:=h' }) :
  wpAny (model prog w) A (PySem.call (.type "super") [.ref 108,.ref x]) Q E s:=by
 have h1:=called_super.notType
 have h2:=called_super.canCreate
 have hmro:=mro_super
 have hmade:=called_super.made
 have hsub:=called_super.sub
 have hcn:=newCall_super (.ref 108) (.ref x)
 obtain ⟨hh,g,dr,tk,os⟩:=s
 have hct:Looks (model prog w) hh (checkTypeCall "super" ⟨[.ref 108,.ref x],[]⟩) ():=looks_tcSuper X _
 have Lm:Looks (model prog w) hh (mroOf (.type "super")) _:=Looks.of_pure hmro
 have Lb:Looks (model prog w) hh (Bind.madeBy (.type "super")) _:=Looks.of_pure hmade
 dsimp only at X I h
 refine wpAny_call (codeAny_of_tree ?_)
 show wpAny _ _ (callAny (.type "super") _) _ _ _
 refine wpAny_pure ⟨Code.quiet_builtin _ (by decide +kernel),codeAny_builtin F.entry_type_call ?_⟩
 rw [Around.under_plain (weight_type_call_type "super" [.ref 108,.ref x] []) (units_type_call_type "super" [.ref 108,.ref x] [])]
 unfold Builtin.«type.__call__»
 have K:wpAny (model prog w) A.in1 (call (.builtin "super.__new__") [.type "super",.ref 108,.ref x]) (fun v s'=>v=.ref hh.objs.size∧s'=⟨hh.push (supObj .none .none .none),g,dr,tk,os⟩) (fun _ _=>False) ⟨hh,g,dr,tk,os⟩ :=
  wpAny_call (codeAny_call_builtin called_super.plain entry_super_new (wpAny_of_eq hcn (meets_super_new (.ref 108) (.ref x) prog w A.in1 (wants (fun v s'=>v=.ref hh.objs.size∧s'=⟨hh.push (supObj .none .none .none),g,dr,tk,os⟩) (fun _ _=>False)) _ ⟨rfl,rfl⟩)))
 repeat first | (with_reducible refine wpAny_mono K ?_ (fun _ _ z=>z.elim)) | lk
 rintro v s' ⟨rfl,rfl⟩
 have eq:(hh.push (supObj .none .none .none)).get? hh.objs.size=some (supObj .none .none .none):=Heap.get?_push_size _ rfl
 have k1:∀ b o,hh.get? b=some o→(hh.push (supObj .none .none .none)).get? b=some o:=fun b o e=>Heap.get?_push_of_some _ e
 have sz:hh.objs.size < (hh.push (supObj .none .none .none)).objs.size:=by rw [Heap.size_push];exact Nat.lt_succ_self _
 generalize hh.push (supObj .none .none .none)=h1 at eq k1 sz ⊢
 have Lq:Looks (model prog w) h1 (typeOf (.ref hh.objs.size)) (.type "super"):=(Looks.ld eq).andThen .now
 have Li:Looks (model prog w) h1 (isInstance (.ref hh.objs.size) (.type "super")) true:=Lq.andThen (Looks.of_pure hsub)
 have Ls:Looks (model prog w) h1 (specialOf (.ref hh.objs.size) (Str.ofString "__init__")) (some (.builtin "super.__init__")):=Lq.andThen (Looks.of_pure slot_super_init.lookup)
 have Lz:Looks (model prog w) h1 (bindSpecial (.builtin "super.__init__") (.ref hh.objs.size)) (.builtin "super.__init__",[.ref hh.objs.size]):=Looks.of_pure (slot_super_init.bind _)
 have I1:InstAt h1 x ox 108 od:=⟨k1 _ _ I.at_,I.cls,I.no,by
  have:=I.dict
  revert this
  cases ox.dict <;> cases od <;> first | exact fun z=>z | exact fun z=>k1 _ _ z⟩
 have K2:wpAny (model prog w) A.in1 (call (.builtin "super.__init__") ([.ref hh.objs.size]++[.ref 108,.ref x])) (fun v s'=>v=.none∧∃ h2,s'=⟨h2,g,dr,tk,os⟩∧Heap.SameBut hh.objs.size h1 h2∧h2.get? hh.objs.size=some (supObj (.ref 108) (.ref x) (.ref 108))) (fun _ _=>False) ⟨h1,g,dr,tk,os⟩ :=
  super_init_call (X.keeps k1) I1 eq fun h2 s2 e2=>⟨rfl,h2,rfl,s2,e2⟩
 unfold callSpecial?
 repeat first | (with_reducible refine wpAny_mono K2 ?_ (fun _ _ z=>z.elim)) | lk
 rintro v s' ⟨rfl,h2,rfl,s2,e2⟩
 repeat lk
 exact h h2 _ (fun b o e=>s2.extBut b o (Nat.ne_of_lt (Heap.lt_size e)) (k1 b o e)) e2 (Nat.le_refl _) (by rw [s2.1];exact Nat.le_of_lt sz)
end
theorem slot_super_ga:Slot "super" "__getattribute__" "super.__getattribute__" :=
 Slot.of (by rw [typeLookup_type,builtinLookup_eq_fast];kernel_rfl) (owner:="super") (n:="__getattribute__") (by decide +kernel) (by decide +kernel) (by decide +kernel) (.inl (by decide +kernel)) (by rw [isSubtype_type];kernel_rfl)
theorem entry_super_ga:entryFor table "super.__getattribute__"=some Builtin.«super.__getattribute__»:=entryFor_of_tree (by kernel_rfl)
theorem args_super_ga (a b:Value):argsOk "super.__getattribute__" ⟨[a,b],[]⟩:=by unfold argsOk;kernel_rfl
noncomputable abbrev boundB (f:String) (self:Value):Obj:={ cls:=.type "builtin_function_or_method",data:=.fields #[.builtin f,self] }
noncomputable abbrev ddMiss:String:="collections.defaultdict.__missing__"
section
variable {prog:Program} {A:Around} {E:Value→Shared→Prop} {s:Shared} {x q:Addr} {ox:Obj} {od:Option Obj} {Q:Value→Shared→Prop}
theorem slot_md_get:Slot "method_descriptor" "__get__" "method_descriptor.__get__" :=
 Slot.of (by rw [typeLookup_type,builtinLookup_eq_fast];kernel_rfl) (owner:="method_descriptor") (n:="__get__") (by decide +kernel) (by decide +kernel) (by decide +kernel) (.inl (by decide +kernel)) (by rw [isSubtype_type];kernel_rfl)
theorem entry_md_get:entryFor table "method_descriptor.__get__"=some Builtin.«method_descriptor.__get__»:=entryFor_of_tree (by kernel_rfl)
theorem args_md_get (a b c:Value):argsOk "method_descriptor.__get__" ⟨[a,b,c],[]⟩:=by unfold argsOk;kernel_rfl
theorem md_get (X:(fragK w).In s.heap) (I:InstAt s.heap x ox 108 od) (h:Q (.ref s.heap.objs.size) { s with heap:=s.heap.push (boundB ddMiss (.ref x)) }) :
  wpAny (model prog w) A (call (.builtin "method_descriptor.__get__") [.builtin ddMiss,.ref x,.ref 108]) Q E s:=by
 have Lt:typeOf (.builtin ddMiss)=pure (.type "method_descriptor"):=(by show builtinType _=_;rw [builtinType_eq_fast];kernel_rfl)
 refine wpAny_call (codeAny_call_builtin slot_md_get.plain entry_md_get (slot_md_get.check _ _ _ _ _ _ _ _ Lt (args_md_get _ _ _) ?_))
 obtain ⟨hp,g,dr,tk,os⟩:=s
 have L0:=I.type (M:=model prog w)
 dsimp only at L0 X
 have Li:Looks (model prog w) hp (isInstance (.ref x) (.type (".".intercalate (ddMiss.cutAt '.').dropLast))) true:=by
  rw [show (".".intercalate (ddMiss.cutAt '.').dropLast)="collections.defaultdict" from by decide +kernel]
  exact L0.andThen (looks_subIn X (by kernel_rfl))
 unfold Builtin.«method_descriptor.__get__»
 repeat lk
 exact h
theorem super_ga {t:Tok} (hx:x≠108) (X:(fragK w).In s.heap) (hnl:∃ mc,s.heap.Ns cStatics mc∧mc "thirdparty.any"=none) (I:InstAt s.heap x ox 108 od) (hq:s.heap.get? q=some (supObj (.ref 108) (.ref x) (.ref 108)))
  (h:Q (.ref s.heap.objs.size) { s with heap:=s.heap.push (boundB ddMiss (.ref x)) }) :
  wpAny (model prog w) A (call (.builtin "super.__getattribute__") [.ref q,.str ("__missing__":Str) t]) Q E s:=by
 refine wpAny_call (codeAny_call_builtin slot_super_ga.plain entry_super_ga (slot_super_ga.check _ _ _ _ _ _ _ _ ⟨_,hq,rfl⟩ (args_super_ga _ _) ?_))
 obtain ⟨hp,g,dr,tk,os⟩:=s
 have L0:=I.type (M:=model prog w)
 dsimp only at L0 hq
 unfold Builtin.«super.__getattribute__»
 dsimp only at X hnl
 have La:Looks (model prog w) hp (opaqueClassAbove (.ref 108)) none:=by
  refine xEA hnl fun mc hn e=>?_
  refine Looks.andThen (a:=false) (fun A Q E s k q=>?_) (by show Looks _ hp (if (!false)=true then pure none else _) none;rw [if_pos (show (!false)=true from rfl)];exact .now)
  unfold anyOpaqueLoaded
  refine wpAny_bind (wpAny_nsGet (hn.keeps k) ?_)
  rw [e];exact wpAny_pure q
 have Lm:Looks (model prog w) hp (mroOf (.ref 108)) [.ref 108,.type "collections.defaultdict",.type "dict",.type "object"]:=by
  have e:clsIn (fragK w) 108=some ((clsIn (fragK w) 108).get!):=by kernel_rfl
  exact (looks_clsIn X e).andThen (Looks.of_pure (by kernel_rfl))
 have Lc:Looks (model prog w) hp (classOwn (.type "collections.defaultdict") (Str.ofString "__missing__")) (some (.builtin ddMiss)):=Looks.of_pure (by kernel_rfl)
 have Lt:Looks (model prog w) hp (typeOf (.builtin ddMiss)) (.type "method_descriptor"):=Looks.of_pure (by show builtinType _=_;rw [builtinType_eq_fast];kernel_rfl)
 have Lg:Looks (model prog w) hp (typeLookup (.type "method_descriptor") (Str.ofString "__get__")) (some (.builtin "method_descriptor.__get__")):=Looks.of_pure (by rw [typeLookup_type,builtinLookup_eq_fast];kernel_rfl)
 have Lf0:=looks_field (M:=model prog w) hq 0 (v:=.ref 108) rfl
 have Lf1:=looks_field (M:=model prog w) hq 1 (v:=.ref x) rfl
 have Lf2:=looks_field (M:=model prog w) hq 2 (v:=.ref 108) rfl
 have K:=md_get (A:=A.in1) (E:=fun _ _=>False) (Q:=fun v s'=>v=.ref hp.objs.size∧s'=⟨hp.push (boundB ddMiss (.ref x)),g,dr,tk,os⟩) (prog:=prog) (s:=⟨hp,g,dr,tk,os⟩) X I ⟨rfl,rfl⟩
 have K':wpAny (model prog w) A.in1 (call (.builtin "method_descriptor.__get__") [.builtin ddMiss,if (Value.ref x == Value.ref 108)=true then Value.none else Value.ref x,.ref 108]) (fun v s'=>v=.ref hp.objs.size∧s'=⟨hp.push (boundB ddMiss (.ref x)),g,dr,tk,os⟩) (fun _ _=>False) ⟨hp,g,dr,tk,os⟩:=by
  rw [if_neg (by simpa using hx)];exact K
 unfold notOfAnOpaqueClass
 repeat first | (with_reducible refine wpAny_mono K' ?_ (fun _ _ z=>z.elim)) | lk
 rintro v s' ⟨rfl,rfl⟩
 repeat lk
 exact h
theorem get_super {b:Bool} (hx:x≠108) (X:(fragK w).In s.heap) (hnl:∃ mc,s.heap.Ns cStatics mc∧mc "thirdparty.any"=none) (I:InstAt s.heap x ox 108 od) (hq:s.heap.get? q=some (supObj (.ref 108) (.ref x) (.ref 108)))
  (h:Q (.ref s.heap.objs.size) { s with heap:=s.heap.push (boundB ddMiss (.ref x)),toks:=s.toks + 1 }) :
  wpAny (model prog w) A (getAttr (.ref q) ("__missing__":Str) b) Q E s:=by
 obtain ⟨hp,g,dr,tk,os⟩:=s
 dsimp only at X hnl I hq h
 have Lq:Looks (model prog w) hp (typeOf (.ref q)) (.type "super"):=(Looks.ld hq).andThen .now
 have L1:Looks (model prog w) hp (typeLookup (.type "super") (Str.ofString "__getattribute__")) (some (.builtin "super.__getattribute__")):=Looks.of_pure slot_super_ga.lookup
 unfold getAttr getAttrBy
 refine wpAny_bind (wpAny_mkText (wpAny_holding (wpAny_bind (Lq.at (wpAny_bind (L1.at ?_))))))
 dsimp only
 rw [if_neg (by decide +kernel)]
 unfold getAttrByItsOwn hookBefore
 rw [if_neg (by decide)]
 refine wpAny_bind (wpAny_pure (wpAny_bind (wpAny_attempt (wpAny_holding ?_))))
 unfold callGetattribute
 rw [show (b && onTheHeap (Value.builtin "super.__getattribute__"))=false from Bool.and_false _,if_neg (by decide)]
 unfold boundAndCalled
 rw [slot_super_ga.bind]
 refine wpAny_bind (wpAny_pure ?_)
 show wpAny _ _ (call (.builtin "super.__getattribute__") [.ref q,.str ("__missing__":Str) tk]) _ _ _
 exact super_ga hx X hnl I hq (wpAny_pure h)
end
theorem entry_ga3:entryFor table "getattr"=some Builtin.«getattr»:=entryFor_of_tree (by kernel_rfl)
theorem plain_ga3:plainId "getattr"=true:=by decide +kernel
theorem check_ga3 (a b c:Value):checkBuiltinCall "getattr" ⟨[a,b,c],[]⟩=pure ():=by kernel_rfl
section
variable {prog:Program} {A:Around} {E:Value→Shared→Prop} {s:Shared} {x q:Addr} {ox:Obj} {od:Option Obj} {Q:Value→Shared→Prop} {dn:Nat} {dflt:Value} {t:Tok}
theorem oga_miss {name:Str} {tk:Tok} {E:Value→Shared→Prop} {Q:PySem.Fin→Shared→Prop} (hh:A.handled=none) (X:(fragK w).In s.heap) (I:InstAt s.heap x ox 108 od) (hf:findObj (fragK w) 108 od name=some .missing) (hsz:name.length≤1000)
  (h:∀ h' tk' e,Heap.NewAttrErr s.heap h' e (.ref x) name→E (.ref e) { s with heap:=h',toks:=tk' }) :
  wpAny (model prog w) A (Builtin.«object.__getattribute__» ⟨[.ref x,.str name tk],[]⟩) Q E s:=by
 obtain ⟨hp,g,dr,t,os⟩:=s
 dsimp only at X I h
 have L0:=I.type (M:=model prog w)
 have L1:=looks_find (M:=model prog w) X I hf
 unfold Builtin.«object.__getattribute__»
 have K:∀ (pre:Str),pre.length≤1000→wpAny (model prog w) A (raiseAttrError (.ref x) name (pre++name++("'":Str)):Sem PySem.Fin) Q E ⟨hp,g,dr,t,os⟩:=fun pre hpre=>wpAny_raiseAttrError hh h (by
  rw [strLen_append,strLen_append];have:("'":Str).length=1:=by decide
  have e:sizeLine=2 ^ 24:=rfl
  omega)
 have h108:=X 108 _ rfl
 repeat first | (with_reducible exact K _ (by decide +kernel)) | lk
theorem own_miss? {name:Str} {Q:Option Value→Shared→Prop} (hh:A.handled=none) (X:(fragK w).In s.heap) (I:InstAt s.heap x ox 108 od) (hf:findObj (fragK w) 108 od name=some .missing) (hsz:name.length≤1000)
  (h:∀ h' tk,(∀ b o,s.heap.get? b=some o→h'.get? b=some o)→Q none { s with heap:=h',toks:=tk }) :
  wpAny (model prog w) A (getAttrBy? (.ref x) (.str name t)) Q E s:=by
 obtain ⟨hp,g,dr,tk,os⟩:=s
 dsimp only at X I h
 have L0:=I.type (M:=model prog w)
 have L1:=looks_findIn (M:=model prog w) X (ownFdd (w:=w)).find
 have L2:=looks_findIn (M:=model prog w) X (ownFdd (w:=w)).hook
 unfold getAttrBy? getAttrBy
 refine wpAny_bind (wpAny_attempt (wpAny_holding (wpAny_bind (L0.at (wpAny_bind (L1.at ?_))))))
 dsimp only
 rw [(ownFdd (w:=w)).other,Bool.and_false,if_neg Bool.false_ne_true]
 unfold getAttrByItsOwn hookBefore
 rw [if_pos (show onTheHeap (Value.ref 108)=true from rfl)]
 refine wpAny_bind (L2.at (wpAny_bind (wpAny_attempt (wpAny_holding ?_))))
 unfold callGetattribute
 rw [show (false && onTheHeap (Value.builtin "collections.defaultdict.__getattribute__"))=false from rfl,if_neg (by decide)]
 unfold boundAndCalled
 rw [(ownFdd (w:=w)).bind]
 refine wpAny_bind (wpAny_pure ?_)
 show wpAny _ _ (call (.builtin "collections.defaultdict.__getattribute__") [.ref x,.str name t]) _ _ _
 refine wpAny_call (codeAny_call_builtin (ownFdd (w:=w)).plain (ownFdd (w:=w)).entry ?_)
 refine @check_slot (model prog w) _ _ _ "collections.defaultdict.__getattribute__" "collections.defaultdict" "__getattribute__" (.ref x) [.str name t] [] _ (ownFdd (w:=w)).kind (ownFdd (w:=w)).split (L0.andThen (looks_subIn X (ownFdd (w:=w)).sub)) ((ownFdd (w:=w)).args _ _) ?_
 refine oga_miss hh X I hf hsz fun h' tk' e N=>?_
 refine xEE N.there fun tt u he=>?_
 have Le:Looks (model prog w) h' (isInstance (.ref e) (.type "AttributeError")) true:=((Looks.ld he).andThen .now).andThen (Looks.of_pure sub_AttributeError)
 dsimp only
 unfold getattributeRaised hookBehind
 refine wpAny_bind (Le.at ?_)
 rw [if_pos rfl,if_pos (show onTheHeap (Value.ref 108)=true from rfl)]
 refine wpAny_bind (wpAny_pure ?_)
 unfold hookOrError attributeErrorLeaves
 dsimp only
 rw [if_pos (show (!false)=true from rfl)]
 refine wpAny_bind (wpAny_throw ?_)
 refine wpAny_bind (Le.at ?_)
 rw [if_pos rfl]
 exact wpAny_pure (h h' tk' N.keeps)
theorem frozen_miss (hh:A.handled=none) (hnl:∃ mc,s.heap.Ns cStatics mc∧mc "thirdparty.any"=none) (X:(fragK w).In s.heap) (I:InstAt s.heap x ox 108 (some { cls:=.type "dict",data:=.dict #[] dn })) (h:∀ h' tk,(∀ b o,s.heap.get? b=some o→h'.get? b=some o)→Q dflt { s with heap:=h',toks:=tk }) :
  wpAny (model prog w) A (call (.builtin "getattr") [.ref x,.str ("_frozen":Str) t,dflt]) Q E s:=by
 refine wpAny_call (codeAny_call_builtin plain_ga3 entry_ga3 (wpAny_of_eq (check_ga3 _ _ _) ?_))
 obtain ⟨hp,g,dr,tk,os⟩:=s
 dsimp only at X I h
 have L0:=I.type (M:=model prog w)
 have L3:Looks (model prog w) hp (isInstance (.ref x) (.type "module")) false:=L0.andThen (looks_subIn X (by kernel_rfl))
 have K:wpAny (model prog w) A.in1 (getAttrBy? (.ref x) (.str ("_frozen":Str) t)) (fun v s'=>v=none∧∃ h' tk',s'=⟨h',g,dr,tk',os⟩∧(∀ b o,hp.get? b=some o→h'.get? b=some o)) (fun _ _=>False) ⟨hp,g,dr,tk,os⟩ :=
  own_miss? hh X I (by kernel_rfl) (by decide) fun h' tk' k=>⟨rfl,h',tk',rfl,k⟩
 unfold Builtin.«getattr»
 repeat first | (with_reducible refine wpAny_mono K ?_ (fun _ _ z=>z.elim)) | lk
 rintro v s' ⟨rfl,h',tk',rfl,k⟩
 repeat lk
 exact h h' tk' k
theorem frozen_hit {fl:Addr} {hs:Int} {t':Tok} (X:(fragK w).In s.heap) (I:InstAt s.heap x ox 108 (some { cls:=.type "dict",data:=.dict #[⟨hs,.str ("_frozen":Str) t',.ref fl⟩] dn })) (h:Q (.ref fl) s) :
  wpAny (model prog w) A (call (.builtin "getattr") [.ref x,.str ("_frozen":Str) t,dflt]) Q E s:=by
 refine wpAny_call (codeAny_call_builtin plain_ga3 entry_ga3 (wpAny_of_eq (check_ga3 _ _ _) ?_))
 obtain ⟨hp,g,dr,tk,os⟩:=s
 dsimp only at X I
 have L0:=I.type (M:=model prog w)
 have L3:Looks (model prog w) hp (isInstance (.ref x) (.type "module")) false:=L0.andThen (looks_subIn X (by kernel_rfl))
 have K:wpAny (model prog w) A.in1 (getAttrBy? (.ref x) (.str ("_frozen":Str) t)) (fun v s'=>v=some (.ref fl)∧s'=⟨hp,g,dr,tk,os⟩) (fun _ _=>False) ⟨hp,g,dr,tk,os⟩:=by
  have L1:=looks_findIn (M:=model prog w) X (ownFdd (w:=w)).find
  have L2:=looks_findIn (M:=model prog w) X (ownFdd (w:=w)).hook
  have Lf:=looks_find (M:=model prog w) X I (name:=("_frozen":Str)) (r:=.value (.ref fl)) (by rfl)
  unfold getAttrBy? getAttrBy
  refine wpAny_bind (wpAny_attempt (wpAny_holding (wpAny_bind (L0.at (wpAny_bind (L1.at ?_))))))
  dsimp only
  rw [(ownFdd (w:=w)).other,Bool.and_false,if_neg Bool.false_ne_true]
  unfold getAttrByItsOwn hookBefore
  rw [if_pos (show onTheHeap (Value.ref 108)=true from rfl)]
  refine wpAny_bind (L2.at (wpAny_bind (wpAny_attempt (wpAny_holding ?_))))
  unfold callGetattribute
  rw [show (false && onTheHeap (Value.builtin "collections.defaultdict.__getattribute__"))=false from rfl,if_neg (by decide)]
  unfold boundAndCalled
  rw [(ownFdd (w:=w)).bind]
  refine wpAny_bind (wpAny_pure ?_)
  show wpAny _ _ (call (.builtin "collections.defaultdict.__getattribute__") [.ref x,.str ("_frozen":Str) t]) _ _ _
  refine wpAny_call (codeAny_call_builtin (ownFdd (w:=w)).plain (ownFdd (w:=w)).entry ?_)
  refine @check_slot (model prog w) _ _ _ "collections.defaultdict.__getattribute__" "collections.defaultdict" "__getattribute__" (.ref x) [.str ("_frozen":Str) t] [] _ (ownFdd (w:=w)).kind (ownFdd (w:=w)).split (L0.andThen (looks_subIn X (ownFdd (w:=w)).sub)) ((ownFdd (w:=w)).args _ _) ?_
  refine wpAny_bind (wpAny_pure (wpAny_bind (wpAny_pure (wpAny_bind (L0.at (wpAny_bind (Lf.at ?_)))))))
  refine wpAny_pure ?_
  show wpAny _ _ (handedOut (.ref fl)) _ _ _
  exact wpAny_pure (wpAny_pure ⟨rfl,rfl⟩)
 unfold Builtin.«getattr»
 repeat first | (with_reducible refine wpAny_mono K ?_ (fun _ _ z=>z.elim)) | lk
 rintro v s' ⟨rfl,rfl⟩
 repeat lk
 exact h
end
theorem AOk.weaken {A:Around} (h:AOk (r + 1) A):AOk r A:=⟨h.handled,h.frames,by have:=h.depth;omega,by have:=h.units;omega⟩
noncomputable def TFac (w:World) (ad:Adr) (r:Nat) (st:St) (nodes:Bool) (v:V) (st':St):Prop :=
 ∀ (A:Around) (E:Value→Shared→Prop) (s:Shared) (μ:Mu) (fac:Value) (Q:Value→Shared→Prop),AOk r A→Sim w ad μ st s.heap→FacIs ad s.heap nodes fac →
  (∀ mv h' tk μ',Step ad.tabs [] μ s.heap μ' h'→Sim w ad μ' st' h'→RV cPair μ' h' v mv→Q mv { s with heap:=h',toks:=tk }) →
  wpAny (model prog w) A (call fac []) Q E s
theorem Sim.setFdd {μ:Mu} {h h':Heap} (S:Sim w ad μ st h) {n:Nat} {p:Addr × Addr} {nodes:Bool} {es es':List (V × V)} {fr:Option Nat} {ens:Array DictEntry} {k:Nat} {fac:Value} (hn:μ[n]?=some p) (hs:st[n]?=some (.fdd nodes es fr)) (C:Heap.SameBut p.1 h h')
  (hg:h'.get? p.1=some (fddOf p.2 ens k fac)) (hv:All2 (EntIs w μ h) es' ens.toList) (hd:(es'.map (·.1)).Nodup∧k=ens.size) (hf:FacIs ad h nodes fac):Sim w ad μ (st.set n (.fdd nodes es' fr)) h':=by
 have R:=S.obj n p _ hn hs
 refine xAEEEAAAAEEA (id R) fun e2 ens0 k0 fac0 hg0 _ _ hf0 dn des hd0 hr0=>?_
 have la:Loose h [p.1]:=fun a ha o e=>by
  rw [List.mem_singleton.mp ha,hg0] at e;obtain rfl:=Option.some.inj e
  exact notFixedR rfl
 have T:Step ad.tabs [p.1] μ h μ h':=.same C
 have hp:p.1∈muts μ:=mem_muts.mpr ⟨n,p,hn,.inl rfl⟩
 refine ⟨S.base.same C (S.high _ hp) la,by simp [S.len],fun j q ob hj ho=>?_,S.high,S.apart⟩
 by_cases hjn:n=j
 ·subst hjn
  rw [hn] at hj;obtain rfl:=Option.some.inj hj
  rw [List.getElem?_set_self (List.getElem?_eq_some_iff.mp hs).1] at ho
  obtain rfl:=Option.some.inj ho
  refine ⟨e2,_,_,_,hg,hv.imp fun a b r=>⟨r.1,r.2.up S T la⟩,hd,hf.up S T la,dn,des,(C.2 _ e2).trans hd0,hr0.up S T la⟩
 ·rw [List.getElem?_set_ne hjn] at ho
  have z:=S.apart n j p q hn hj hjn
  exact (S.obj j q ob hj ho).up S T la (fun o e=>(C.2 _ (Ne.symm z.1)).trans e) (fun o e=>(C.2 _ (Ne.symm z.2.1)).trans e)
theorem Step.own {tabs:List Addr} {μ:Mu} {h h':Heap} {n:Nat} {p:Addr × Addr} (hn:μ[n]?=some p) (C:Heap.SameBut p.1 h h'):Step tabs [] μ h μ h' :=
 ⟨⟨[],by simp,by simp⟩,by rw [C.1];exact Nat.le_refl _,fun b o e _ hm _=>.inl ((C.2 b (fun q=>hm (mem_muts.mpr ⟨n,p,hn,.inl q⟩))).trans e)⟩
theorem callBorrowed_eq (f:Value) (l:List Value):callBorrowed f l=(call f l).keep [borrowed]:=by
 show Sem.call (.call f ⟨l,[]⟩) none false [borrowed] _=Sem.call (.call f ⟨l,[]⟩) none false [borrowed] _
 congr 1
 funext x
 rcases x with e | f
 ·rfl
 ·cases f <;> rfl
theorem slot_call {A:Around} {E:Value→Shared→Prop} {s:Shared} {fl:Addr} {o:Obj} {fd:FuncData} {Q:Value→Shared→Prop} (ho:s.heap.get? fl=some o) (hd:o.data=.func fd) (h:wpAny (model prog w) A (call (.ref fl) []) Q E s) :
  wpAny (model prog w) A (callOutOfASlot (.ref fl)) Q E s:=by
 unfold callOutOfASlot borrowsExactly
 dsimp only
 refine wpAny_bind (wpAny_bind (wpAny_load ho ?_))
 rw [hd]
 refine wpAny_pure ?_
 rw [if_pos rfl,callBorrowed_eq]
 exact wpAny_keep h
theorem Base.noThird {h:Heap} (B:Base w ad h):∃ mc,h.Ns cStatics mc∧mc "thirdparty.any"=none:=by
 refine xEA B.facts.nolimitO fun mc z'1 hm=>?_;refine xEEEA z'1 fun o es ep e q=>?_
 exact ⟨mc,⟨o,es,ep,B.keep _ _ B.facts.nolimitT e,q⟩,hm⟩
theorem FacIs.fn {h:Heap} (B:Base w ad h) {nodes:Bool} {fac:Value} (H:FacIs ad h nodes fac):∃ fl o fd,fac=.ref fl∧h.get? fl=some o∧o.data=.func fd:=by
 unfold FacIs at H
 split at H
 ·refine xAEEA B.facts.nodeAt fun t o fd e d=>?_
  exact ⟨_,o,fd,H,B.get t e,d⟩
 ·refine xEEEEAAA H fun fl o pm c e1 e2 e3 r'1=>?_;refine xA r'1 fun e4 e5=>?_
  exact ⟨fl,o,_,e1,e2,e4⟩
theorem entry_ddm:entryFor table ddMiss=some Builtin.«collections.defaultdict.__missing__»:=entryFor_of_tree (by kernel_rfl)
theorem entry_sdf:entryFor table "dict.setdefault"=some Builtin.«dict.setdefault»:=entryFor_of_tree (by kernel_rfl)
theorem dictSetDefault_new {K:Type} [DecidableEq K] {knd:KeyKind Mine.prog w K} {A:Around} {E:Value→Shared→Prop} {s:Shared} {d:Addr} {o:Obj} {es:Array DictEntry} {ep:Nat} {k:K} {key v:Value} {Q:Value→Shared→Prop}
  (hkey:knd.is k key=true) (ho:s.heap.get? d=some o) (hd:o.data=.dict es ep) (hk:KeysOf knd es) (hn:findBy knd.is es k=none) (hz:es.size≤2 ^ 20)
  (h:Q v { s with heap:=s.heap.update d (Obj.mapDictKeys (·.push ⟨knd.hash k,key,v⟩)),toks:=s.toks + 1 }):wpAny (model Mine.prog w) A (dictSetDefault d key v) Q E s:=by
 unfold dictSetDefault
 refine wpAny_holding (wpAny_bind (knd.pyHash hkey (wpAny_bind (wpAny_dictFind_of (s:={ s with toks:=s.toks + 1 }) hkey ho hd hk ?_))))
 have:(es.findIdx? fun e=>knd.is k e.key)=none:=by
  cases hi:es.findIdx? fun e=>knd.is k e.key with
  | none=>rfl
  | some i =>
   rw [findBy_of_findIdx?,hi] at hn
   have:=(Array.findIdx?_eq_some_iff_getElem.mp hi).1
   simp [this] at hn
 rw [this]
 refine wpAny_bind (wpAny_rule (wpAny_bind (wpAny_updateDictKeys (s:={ s with toks:=s.toks + 1 }) ho hd (wpAny_pure h) (hz:=Nat.le_trans hz (by decide)) (hf:=by simp))))
section
variable {K:Type} [DecidableEq K] {knd:KeyKind Mine.prog w K} {inj:K→V}
theorem onV_snoc {kvs:List (K × V)} {k:K} {v:V}:onV inj (kvs++[(k,v)])=onV inj kvs++[(inj k,v)]:=by exact List.map_append
theorem onV_nodup (I:KI w knd inj) {kvs:List (K × V)} {k:K} {v:V} (h:((onV inj kvs).map (·.1)).Nodup) (hn:vAt kvs k=none):((onV inj (kvs++[(k,v)])).map (·.1)).Nodup:=by
 rw [onV_snoc,List.map_append,List.nodup_append]
 refine ⟨h,by simp,?_⟩
 rintro a ha b hb rfl
 simp at hb
 subst hb
 refine xEA (List.mem_map.mp ha) fun p hp e=>?_
 refine xEA (List.mem_map.mp hp) fun q hq q'1=>?_;subst q'1
 have e':inj q.1=inj k:=e
 have:=I.inj _ _ e'
 unfold vAt at hn
 rw [Option.map_eq_none_iff,List.find?_eq_none] at hn
 exact hn q hq (by simpa using this)
theorem dd_body {A:Around} {s:Shared} {R:Result→Shared→Prop} {μ:Mu} {n:Nat} {x d:Addr} {nodes:Bool} {kvs:List (K × V)} {k:K} {key:Value} {v:V} (hA:AOk (r + 2) A) (S:Sim w ad μ st s.heap) (hm:μ[n]?=some (x,d)) (hs:st[n]?=some (.fdd nodes (onV inj kvs) none))
  (I:KI w knd inj) (hkey:knd.is k key=true) (rk:RV cPair μ s.heap (inj k) key) (CF:TFac w ad r st nodes v st₁) (hs₁:st₁[n]?=some (.fdd nodes (onV inj kvs) none)) (hnew:vAt kvs k=none) (hz:kvs.length≤2 ^ 20)
  (h:∀ mv h' tk μ',Step ad.tabs [] μ s.heap μ' h'→Sim w ad μ' (st₁.set n (.fdd nodes (onV inj (kvs++[(k,v)])) none)) h'→RV cPair μ' h' v mv→R (.ok (.ret mv)) { s with heap:=h',toks:=tk }) :
  codeAny (model Mine.prog w) A (.builtin ddMiss ⟨[.ref x,key],[]⟩) R s:=by
 refine S.fddOn hs hm fun hxd ens kk fac dn des hg he hnd hfac hd hfro=>?_
 refine xEEEA (hfac.fn S.base) fun fl o fd q'1 r'2=>?_;subst q'1;refine xA r'2 fun hfo hfd=>?_
 obtain ⟨hp,g,dr,tk,os⟩:=s
 dsimp only at S hg hd he hfo hfac hfro h rk
 refine codeAny_builtin entry_ddm ?_
 rw [Around.under_plainId (by decide +kernel)]
 have KF:wpAny (model Mine.prog w) A.in1 (callOutOfASlot (.ref fl)) (fun mv s'=>∃ h' tk' μ',s'=⟨h',g,dr,tk',os⟩∧Step ad.tabs [] μ hp μ' h'∧Sim w ad μ' st₁ h'∧RV cPair μ' h' v mv) (fun _ _=>False) ⟨hp,g,dr,tk,os⟩ :=
  slot_call hfo hfd (CF _ _ _ μ _ _ (hA.in1:AOk (r + 1) A.in1).weaken S hfac fun mv h' tk' μ' T S' rv=>⟨h',tk',μ',rfl,T,S',rv⟩)
 unfold Builtin.«collections.defaultdict.__missing__»
 repeat first | (with_reducible refine wpAny_mono KF ?_ (fun _ _ z=>z.elim)) | lk
 rintro mv s' ⟨h1,tk1,μ1,rfl,T,S1,rv⟩
 refine wpAny_pure ⟨Code.quiet_builtin _ (by decide +kernel),codeAny_builtin entry_sdf ?_⟩
 rw [Around.under_plainId (by decide +kernel)]
 have hm1:μ1[n]?=some (x,d):=by
  refine xEA T.ext fun more q'1 _=>?_;subst q'1
  rw [List.getElem?_append_left (List.getElem?_eq_some_iff.mp hm).1];exact hm
 refine S1.fddOn hs₁ hm1 fun _ ens1 kk1 fac1 dn1 des1 hg1 he1 hnd1 hfac1 hd1 hfro1=>?_
 have X1:=S1.base.frag
 have In:=fddInst hg1 hd1
 have L0:=In.type (M:=model Mine.prog w)
 have L1:Looks (model Mine.prog w) h1 (isInstance (.ref x) (.type "collections.OrderedDict")) false:=L0.andThen (looks_subIn X1 (by kernel_rfl))
 have L2:Looks (model Mine.prog w) h1 (isSubtype (fddOf d ens1 kk1 fac1).cls (.type "collections.OrderedDict")) false:=looks_subIn X1 (by kernel_rfl)
 have hx:(x == sysModules)=false:=S1.notSys hm1
 have hK:=ents_keys I he1
 have hfb:findBy knd.is ens1 k=none:=by
  rcases ents_find I he1 k with ⟨_,e2⟩ | ⟨v',mv',e1,_,_⟩
  ·exact e2
  ·rw [hnew] at e1;exact nsome e1
 have hsz:ens1.size=kvs.length:=by have:=he1.length;simp [onV] at this;exact this.symm
 unfold Builtin.«dict.setdefault»
 repeat lk
 rw [if_neg (by rw [hx];decide)]
 repeat first | (with_reducible refine dictSetDefault_new (knd:=knd) (k:=k) hkey hg1 rfl hK hfb (by omega) ?_) | lk
 have C:Heap.SameBut x h1 (h1.update x (Obj.mapDictKeys (·.push ⟨knd.hash k,key,mv⟩))):=Heap.SameBut.update ..
 have hg2:(h1.update x (Obj.mapDictKeys (·.push ⟨knd.hash k,key,mv⟩))).get? x=some (fddOf d (ens1.push ⟨knd.hash k,key,mv⟩) (kk1 + 1) fac1):=Heap.get?_update_self _ hg1 (by rfl)
 have TT:=Step.own (tabs:=ad.tabs) hm1 C
 refine h mv _ _ μ1 (T.trans0 TT) (S1.setFdd hm1 hs₁ C hg2 ?_ ?_ hfac1) (rv.up S1 TT Loose.nil)
 ·rw [Array.toList_push,onV_snoc]
  exact he1.append (.cons ⟨I.rv _ _ _ _ (rk.up S T Loose.nil),rv⟩ .nil)
 ·exact ⟨onV_nodup I hnd1.1 hnew,by rw [Array.size_push,hnd1.2]⟩
end
section
variable {M:Model} {A:Around} {α β:Type} {c:Code} {E:Value→Shared→Prop} {s:Shared}
theorem own_holding {m:Sem α} {vs:List Value} {Q:α→Shared→Prop} (h:wpOwn M A c m Q E s):wpOwn M A c (holding vs m) Q E s:=fun Γ p hc hΓ=>by rw [Sem.wp_holding];exact h Γ p hc hΓ
theorem own_onRaise {m:Sem α} {k:Value→Sem Unit} {Q:α→Shared→Prop} (h:wpOwn M A c m Q (fun e s'=>wpOwn M A c (k e) (fun _ s''=>E e s'') E s') s):wpOwn M A c (m.onRaise k) Q E s:=fun Γ p hc hΓ=>by
 rw [Sem.wp_onRaise]
 exact Sem.wp_mono M Γ m (fun _ _ _ h'=>h') (fun e p' s' h'=>h' Γ p' hc hΓ) p s (h Γ p hc hΓ)
theorem own_then {m:Sem α} {f:α→Sem β} {Q:β→Shared→Prop} (h:wpAny M (A.under c) m (fun a s'=>wpOwn M A c (f a) Q E s') E s):wpOwn M A c (m >>= f) Q E s:=wpOwn_bind (wpOwn_of_wpAny h)
theorem own_pure {a:α} {Q:α→Shared→Prop} (h:Q a s):wpOwn M A c (pure a) Q E s:=fun _ _ _ _=>h
end
theorem missBody:∃ pos p0 p1 pg pa pb pc ps ps2 pap kk,fBody (methAt 4 1)=[.Return (some (.Call (.Call (.Name ("getattr":Str) pg) [.Name ("self":Str) pa,.Constant (.str ("_frozen":Str)) kk pb,.Attribute (.Call (.Name ("super":Str) ps) [] [] ps2) ("__missing__":Str) pap] [] p1) [.Name ("key":Str) pc] [] p0)) pos]:=⟨_,_,_,_,_,_,_,_,_,_,_,rfl⟩
theorem comps_none {A:Around} {b:List Stmt} {env:Env} {E:Value→Shared→Prop} {s:Shared} {Q:List Env→Shared→Prop} (h:Q [] s):wpOwn (model prog w) A (.func b env) comprehensionsAround Q E s:=by
 unfold comprehensionsAround callersCodes
 refine wpOwn_bind (wpOwn_bind (wpOwn_stack fun p below _ _ _=>?_))
 have e:pastTheWaiting ((Code.func b env,p) :: below)=(Code.func b env,p) :: pastTheWaiting.go false (some (Code.func b env)) below:=by rfl
 dsimp only
 rw [e]
 have e1:∀ l:List Code,(Code.func b env :: l).findSome? (·.env?)=some env:=fun l=>rfl
 have e2:∀ l:List Code,((Code.func b env :: l).filter (·.env?.isSome)).takeWhile (·.isInlined)=[]:=fun l=>rfl
 simp only [List.map_cons,e1]
 rw [if_neg (by simp)]
 refine own_pure ?_
 rw [e2]
 exact own_pure h
theorem codeIn_miss:codeIn (fragK w) (.ref 97) "FreezableDefaultDict.__missing__"=true:=by rfl
noncomputable abbrev missFd:FuncData:=methOf 4 1 "__missing__" "FreezableDefaultDict.__missing__" .none .none (.str ("cpy313.importlib.metadata._collections":Str) 286) (.ref 97) (.ref 91) [(("__class__":Str),86)] none
noncomputable abbrev missEnv (L:Addr):Env:=newEnv missFd.scope L mainGlobals [(("__class__":Str),86)] ("FreezableDefaultDict.__missing__"++".<locals>.") (some 98) (.ref 97) none builtinsNs
theorem mk_self (L:Addr):(missEnv L).kindOf ("self":Str)=some .local:=rfl
theorem mk_key (L:Addr):(missEnv L).kindOf ("key":Str)=some .local:=rfl
theorem mk_class (L:Addr):(missEnv L).kindOf ("__class__":Str)=some .free:=rfl
theorem missFrame {μ:Mu} {h h₁:Heap} (S:Sim w ad μ st h) {n:Nat} {x d:Addr} (hm:μ[n]?=some (x,d)) {kv:V} {key:Value} (rk:RV cPair μ h kv key)
  (hn:h₁.Ns h.objs.size (fun y=>[(("self":Str),Value.ref x),(("key":Str),key)].reverse.lookup y)) (hs:Heap.SameBut h.objs.size (h.push { cls:=.type "frame",data:=.dict #[] }) h₁) :
  Sim w ad μ st h₁∧Step ad.tabs [] μ h μ h₁∧Frame ad μ h₁ (missEnv h.objs.size) [(("self":Str),.ref n),(("key":Str),kv),(("__class__":Str),.lit (.ref 108))]:=by
 have keep:∀ b o,h.get? b=some o→h₁.get? b=some o:=fun b o e=>(hs.2 b (Nat.ne_of_lt (Heap.lt_size e))).trans (Heap.get?_push_of_some _ e)
 have sz:h.objs.size≤h₁.objs.size:=by rw [hs.1,Heap.size_push];exact Nat.le_succ _
 have S1:=S.grow sz keep
 have T:Step ad.tabs [] μ h μ h₁:=.grow sz keep
 have hi:∀ {b:Addr},h.objs.size≤b→b∉muts μ:=fun hb q=>absurd (muts_lt S q) (Nat.not_lt.mpr hb)
 have ht:∀ {b:Addr},h.objs.size≤b→b∉ad.tabs:=fun hb q=>absurd (S.base.tabs _ q).1 (Nat.not_lt.mpr (Nat.le_trans S.base.size hb))
 have h86:h₁.IsCell 86 (some (.ref 108)):=⟨_,S1.base.frag 86 _ rfl,rfl⟩
 have lo:∀ {a:Addr} {o:Obj},(fragK w).lookup a=some o→a < ad.n0:=fun e=>Heap.lt_size (S.base.facts.frag _ _ e)
 refine ⟨S1,T,rfl,rfl,rfl,⟨_,hn,fun y v e k=>?_⟩,fun y v e k=>?_,fun y c hc=>?_,?_,hi (Nat.le_refl _),ht (Nat.le_refl _),S.base.size⟩
 ·simp only [List.lookup_cons] at e
  by_cases h1:y=("self":Str)
  ·subst h1;rw [beq_self_eq_true] at e;obtain rfl:=Option.some.inj e
   exact ⟨_,by rfl,.ref hm⟩
  ·rw [beq_eq_false_iff_ne.mpr h1] at e
   by_cases h2:y=("key":Str)
   ·subst h2;rw [beq_self_eq_true] at e;obtain rfl:=Option.some.inj e
    exact ⟨_,by rfl,rk.up S T Loose.nil⟩
   ·rw [beq_eq_false_iff_ne.mpr h2] at e
    by_cases h3:y=("__class__":Str)
    ·subst h3;rw [mk_class] at k;exact absurd k (by decide)
    ·rw [beq_eq_false_iff_ne.mpr h3] at e;exact nsome e
 ·simp only [List.lookup_cons] at e
  by_cases h1:y=("self":Str)
  ·subst h1;rw [mk_self] at k;rcases k with k | k <;> exact absurd k (by decide)
  ·rw [beq_eq_false_iff_ne.mpr h1] at e
   by_cases h2:y=("key":Str)
   ·subst h2;rw [mk_key] at k;rcases k with k | k <;> exact absurd k (by decide)
   ·rw [beq_eq_false_iff_ne.mpr h2] at e
    by_cases h3:y=("__class__":Str)
    ·subst h3;rw [beq_self_eq_true] at e;obtain rfl:=Option.some.inj e
     exact ⟨86,_,by rfl,h86,.lit _⟩
    ·rw [beq_eq_false_iff_ne.mpr h3] at e;exact nsome e
 ·have hc':(y,c)∈[(("__class__":Str),(86:Addr))]:=hc
  simp at hc'
  refine xA hc' fun q'1 q'3=>?_;try clear hc';subst q'1;subst q'3
  refine ⟨⟨_,h86⟩,fun q=>absurd (S.high _ q) (Nat.not_le.mpr (lo (a:=86) rfl)),fun q=>?_,fun _ q=>by (rw [mk_class] at q;exact absurd q (by decide)),Nat.ne_of_lt (Nat.lt_of_lt_of_le (lo (a:=86) rfl) S.base.size)⟩
  have:=S.base.facts.fragT 86 q
  exact somen this
 ·exact List.pairwise_singleton _ _
theorem loadName_glob {M:Model} {A:Around} {E:Value→Shared→Prop} {s:Shared} {env:Env} {x:Str} {Q:Value→Shared→Prop} (hk:env.scope.kind=.function) (hx:env.kindOf x=some .globalImplicit) (h:wpAny M A (loadGlobal env x) Q E s):wpAny M A (loadName env x) Q E s:=by
 unfold loadName
 simp only [Env.blockKind,hk,hx,ScopeKind.isAnnotationScope,Bool.false_and,Bool.false_eq_true,if_false]
 exact h
theorem base_super {A:Around} {b:List Stmt} {E:Value→Shared→Prop} {s:Shared} {Q:Value→Shared→Prop} {L:Addr} {ps ps2:Pos} {whole:Sem Value} {μ:Mu} {n:Nat} {x d:Addr} {loc:Loc} {nodes:Bool} {es:List (V × V)} {fr:Option Nat} (hA:A.under (.func b (missEnv L))=A.deeper (missEnv L)) (S:Sim w ad μ st s.heap) (hmg:ad.mg "super"=none) (F:Frame ad μ s.heap (missEnv L) loc) (hs:st[n]?=some (.fdd nodes es fr)) (hm:μ[n]?=some (x,d)) (hl:loc.lookup ("self":Str)=some (.ref n)) (hl2:loc.lookup ("__class__":Str)=some (.lit (.ref 108)))
  (h:∀ h' q,(∀ b o,s.heap.get? b=some o→h'.get? b=some o)→h'.get? q=some (supObj (.ref 108) (.ref x) (.ref 108))→s.heap.objs.size≤q→s.heap.objs.size≤h'.objs.size→Q (.ref q) { s with heap:=h' }) :
  wpOwn (model prog w) A (.func b (missEnv L)) (attributeBase (.Call (.Name ("super":Str) ps) [] [] ps2) ("__missing__":Str) (missEnv L) whole) Q E s:=by
 unfold attributeBase
 dsimp only
 rw [if_neg (show ¬ ((("super":Str) != ("super":Str) || ("__missing__":Str) == ("__class__":Str) || (missEnv L).kindOf ("super":Str) != some .globalImplicit || (missEnv L).kindOf ("__class__":Str) != some .free)=true) from by
  rw [show (missEnv L).kindOf ("super":Str)=some .globalImplicit from rfl,mk_class];decide +kernel),if_pos (show (missEnv L).func.isSome=true from rfl)]
 refine own_then (wpAny_pure ?_)
 rw [show (missEnv L).func=some 98 from rfl]
 dsimp only
 rw [if_neg (by rw [mk_class];decide)]
 have X:=S.base.frag
 have h98:=X 98 _ rfl
 have h97:=X 97 _ rfl
 obtain ⟨hp,g,dr,tk,os⟩:=s
 dsimp only at h98 h97 X
 refine own_then ?_
 (repeat lk)
 obtain ⟨first,e1,e2⟩:∃ first,(missFd.params.posonlyargs++missFd.params.args).head?=some first∧first.arg=("self":Str):=⟨_,rfl,rfl⟩
 rw [e1]
 dsimp only
 refine own_then ?_
 (repeat lk)
 rw [show (missEnv L).code=.ref 97 from rfl]
 dsimp only
 refine own_then ?_
 (repeat lk)
 simp only [List.getElem_toArray,List.getElem_cons_succ,List.getElem_cons_zero]
 rw [if_pos (show ((model prog w).prog.main.file == ("/claim/cut.py":Str))=true from (by decide +kernel:(prog.main.file == ("/claim/cut.py":Str))=true))]
 dsimp only
 rw [if_neg (show ¬ (List.lookup ("super":Str) (model prog w).prog.main.scope.names).isSome=true from (by decide +kernel:¬ (List.lookup ("super":Str) prog.main.scope.names).isSome=true))]
 refine own_then (wpAny_rule (own_then (wpAny_standAt ?_)))
 refine xEA (S.base.builtin (x:=("super":Str)) (by decide)) fun mb nb eb=>?_
 refine own_then (loadName_glob rfl rfl (loadGlobal_builtin (F.gl ▸ S.base.ns) hmg (F.bl ▸ nb) (eb.trans (by rfl)) ?_))
 refine xEEAA (F.cell _ _ hl2 (.inr (mk_class L))) fun c mv ec ic rc=>?_
 obtain rfl:=rc.litE
 refine own_then (wpAny_loadName_free rfl (mk_class L) ec ic ?_)
 refine wpOwn_bind (comps_none ?_)
 rw [e2,show (missEnv L).holderOf [] ("self":Str)=missEnv L from rfl]
 refine xEA F.ns fun ml hn hv=>?_
 refine xEA (hv _ _ hl (mk_self L)) fun mvs es rs=>?_
 refine xEEA rs.refE fun _ _ q'1 hm'=>?_;subst q'1
 rw [hm] at hm';cases hm'
 refine own_then (wpAny_loadName_local (env:=missEnv L) rfl (mk_self L) hn es ?_)
 refine own_then ((looks_isTypeC (prog:=prog) X (C:=108) (o:=((fragK w).lookup 108).get!) (by kernel_rfl) rfl).at ?_)
 rw [if_pos (by decide +kernel)]
 refine S.fddOn hs hm fun hxd ens kk fac dn des hg he hnd hfac hd hfro=>?_
 exact wpOwn_of_wpAny (super_new X (fddInst hg hd) h)
section
variable {M:Model} {A:Around} {c:Code} {E:Value→Shared→Prop} {s:Shared}
theorem own_spliced_cons {x:Sem Value} {rest:List (Bool × Sem Value)} {Q:List Value→Shared→Prop}
  (h:wpOwn M A c x (fun v s₁=>wpOwn M A c (spliced rest) (fun vs s₂=>Q (v :: vs) s₂) E s₁) E s):wpOwn M A c (spliced ((false,x) :: rest)) Q E s:=by
 rw [spliced]
 refine wpOwn_bind (wpOwn_mono h (fun v s₁ h₁=>?_) fun _ _ x=>x)
 simp only [Bool.false_eq_true,if_false]
 refine own_then (wpAny_pure ?_)
 exact wpOwn_bind (own_holding (wpOwn_mono h₁ (fun vs s₂ h₂=>own_pure h₂) fun _ _ x=>x))
theorem own_evalArgs {f:Value} {t:Sem Value} {rest:List (Bool × Sem Value)} {Q:Args→Shared→Prop} (h:wpOwn M A c (spliced ((false,t) :: rest)) (fun vs s'=>Q ⟨vs,[]⟩ s') E s):wpOwn M A c (evalArgs f true ((false,t) :: rest) []) Q E s:=by
 unfold evalArgs
 show wpOwn M A c (spliced ((false,t) :: rest) >>= _) Q E s
 refine wpOwn_bind (wpOwn_mono h (fun vs s' h'=>?_) fun _ _ x=>x)
 refine own_holding ?_
 exact own_then (wpAny_pure (own_then (wpAny_pure (own_pure h'))))
end
theorem own_miss {A:Around} {b:List Stmt} {E:Value→Shared→Prop} {s:Shared} {Q:Value→Shared→Prop} {L:Addr} {p0 p1 pg pa pb pc ps ps2 pap:Pos} {kk:Nat} {μ:Mu} {n:Nat} {x d:Addr} {nodes:Bool} {es:List (V × V)} {fr:Option Nat} {kv:V}
  (hA:A.under (.func b (missEnv L))=A.deeper (missEnv L)) (S:Sim w ad μ st s.heap) (hsup:ad.mg "super"=none) (hget:ad.mg "getattr"=none) (F:Frame ad μ s.heap (missEnv L) [(("self":Str),.ref n),(("key":Str),kv),(("__class__":Str),.lit (.ref 108))])
  (hs:st[n]?=some (.fdd nodes es fr)) (hm:μ[n]?=some (x,d))
  (h:∀ h' tk bq t,Step ad.tabs [] μ s.heap μ h'→Sim w ad μ st h'→Frame ad μ h' (missEnv L) [(("self":Str),.ref n),(("key":Str),kv),(("__class__":Str),.lit (.ref 108))]→h'.get? bq=some (boundB ddMiss (.ref x))→h'.objs.size=bq + 1 →
   wpAny (model prog w) (A.deeper (missEnv L)) (call (.builtin "getattr") [.ref x,.str ("_frozen":Str) t,.ref bq]) (fun f s₁=>wpAny (model prog w) (A.deeper (missEnv L)) (callWith p0 f [] (backTo p0 (starEach [.Name ("key":Str) pc] (missEnv L))) []) Q E s₁) E { s with heap:=h',toks:=tk }) :
  wpOwn (model prog w) A (.func b (missEnv L)) (eval (.Call (.Call (.Name ("getattr":Str) pg) [.Name ("self":Str) pa,.Constant (.str ("_frozen":Str)) kk pb,.Attribute (.Call (.Name ("super":Str) ps) [] [] ps2) ("__missing__":Str) pap] [] p1) [.Name ("key":Str) pc] [] p0) (missEnv L)) Q E s:=by
 show wpOwn _ _ _ ((eval (.Name ("getattr":Str) pg) (missEnv L) >>= fun f=>callWith p1 f [] (backTo p1 (starEach [.Name ("self":Str) pa,.Constant (.str ("_frozen":Str)) kk pb,.Attribute (.Call (.Name ("super":Str) ps) [] [] ps2) ("__missing__":Str) pap] (missEnv L))) []) >>= fun f=>callWith p0 f [] (backTo p0 (starEach [.Name ("key":Str) pc] (missEnv L))) []) Q E s
 refine xEA (S.base.builtin (x:=("getattr":Str)) (by decide)) fun mb nb eb=>?_
 refine wpOwn_bind (own_then (Name_function_global rfl rfl (loadGlobal_builtin (v:=.builtin "getattr") (F.gl ▸ S.base.ns) hget (F.bl ▸ nb) (eb.trans (by rfl)) ?_)))
 unfold callWith
 refine wpOwn_bind (own_holding ?_)
 show wpOwn _ _ _ (evalArgs (.builtin "getattr") true ((false,eval (.Name ("self":Str) pa) (missEnv L)) :: (false,eval (.Constant (.str ("_frozen":Str)) kk pb) (missEnv L)) :: (false,eval (.Attribute (.Call (.Name ("super":Str) ps) [] [] ps2) ("__missing__":Str) pap) (missEnv L)) :: []) []) _ _ _
 refine own_evalArgs (own_spliced_cons ?_)
 refine xEA F.ns fun ml hn hv=>?_
 refine xEA (hv ("self":Str) (.ref n) (by rfl) (mk_self L)) fun mvs e1 rs=>?_
 refine xEEA rs.refE fun _ _ q'1 hm'=>?_;subst q'1
 rw [hm] at hm';cases hm'
 refine wpOwn_of_wpAny (wpAny_Name (wpAny_loadName_local (env:=missEnv L) rfl (mk_self L) hn e1 ?_) (by decide))
 refine own_spliced_cons (wpOwn_of_wpAny (Constant_str ?_))
 refine own_spliced_cons ?_
 show wpOwn _ _ _ (do
   let o ← attributeBase (.Call (.Name ("super":Str) ps) [] [] ps2) ("__missing__":Str) (missEnv L) (eval (.Call (.Name ("super":Str) ps) [] [] ps2) (missEnv L))
   standAt pap.atName
   let r ← holding [o] (getAttr o ("__missing__":Str) true)
   letTemporaryGo (.Call (.Name ("super":Str) ps) [] [] ps2) o r
   pure r) _ _ _
 refine wpOwn_bind (base_super hA S hsup F hs hm rfl rfl fun h1 q k1 hq _ sz1=>?_)
 have S1:=S.grow sz1 k1
 have T1:Step ad.tabs [] μ s.heap μ h1:=.grow sz1 k1
 refine S1.fddOn hs hm fun hxd ens kk' fac dn des hg he hnd hfac hd hfro=>?_
 have hx108:x≠108:=fun e=>by
  have h1:=S.high x (mem_muts.mpr ⟨n,_,hm,.inl rfl⟩)
  have h2:=S.base.above
  subst e
  exact absurd (Nat.lt_of_lt_of_le h2 h1) (by decide)
 refine own_then (wpAny_standAt (own_then (wpAny_holding (get_super hx108 S1.base.frag S1.base.noThird (fddInst hg hd) hq ?_))))
 refine own_then (wpAny_letTemporaryGo (own_pure ?_))
 refine wpOwn_of_wpAny (spliced_nil ?_)
 refine own_then (wpAny_standAt ?_)
 have T2:∀ o,Step ad.tabs [] μ h1 μ (h1.push o):=fun o=>.push o
 have z:=h (h1.push (boundB ddMiss (.ref x))) (s.toks + 1 + 1) h1.objs.size s.toks (T1.trans0 (T2 _)) (S1.push _) ((F.up S T1).up S1 (T2 _)) (Heap.get?_push_size _ rfl) (Heap.size_push ..)
 refine wpOwn_of_wpAny ?_
 rw [hA]
 show wpAny _ _ (call (.builtin "getattr") [.ref x,.str ("_frozen":Str) s.toks,.ref h1.objs.size] >>= fun r=>holding [r] point >>= fun _=>pure r) _ _ _
 exact wpAny_bind (wpAny_mono z (fun r s₂ hr=>wpAny_bind (wpAny_holding (wpAny_point (wpAny_pure (wpOwn_of_wpAny (by rw [hA];exact hr)))))) fun _ _ e=>e)
theorem miss_call {A:Around} {E:Value→Shared→Prop} {s:Shared} {Q:Value→Shared→Prop} {μ:Mu} {n:Nat} {x d:Addr} {nodes:Bool} {es:List (V × V)} {fr:Option Nat} {kv:V} {key:Value}
  (hA:AOk (r + 1) A) (S:Sim w ad μ st s.heap) (hsup:ad.mg "super"=none) (hget:ad.mg "getattr"=none) (hs:st[n]?=some (.fdd nodes es fr)) (hm:μ[n]?=some (x,d)) (rk:RV cPair μ s.heap kv key)
  (h:∀ A' L h' tk bq t p0 pc E',AOk r A'→Step ad.tabs [] μ s.heap μ h'→Sim w ad μ st h'→Frame ad μ h' (missEnv L) [(("self":Str),.ref n),(("key":Str),kv),(("__class__":Str),.lit (.ref 108))]→h'.get? bq=some (boundB ddMiss (.ref x))→h'.objs.size=bq + 1 →
   wpAny (model prog w) A' (call (.builtin "getattr") [.ref x,.str ("_frozen":Str) t,.ref bq]) (fun f s₁=>wpAny (model prog w) A' (callWith p0 f [] (backTo p0 (starEach [.Name ("key":Str) pc] (missEnv L))) []) Q E' s₁) E' { s with heap:=h',toks:=tk }) :
  wpAny (model prog w) A (call (.ref 98) [.ref x,key]) Q E s:=by
 refine xEEEE missBody fun pos p0 p1 pg r'1=>?_;refine xEEEE r'1 fun pa pb pc ps r'2=>?_;refine xEEE r'2 fun ps2 pap kk hb=>?_
 have X:=S.base.frag
 refine wpAny_call (codeAny_call_function (o:=⟨.type "function",none,.func missFd,#[]⟩) (fd:=missFd) (body:=fBody (methAt 4 1)) hA.room (X 98 _ rfl) rfl rfl rfl rfl (codeRec_of X codeIn_miss) ?_)
 rw [show bindArgs missFd ⟨[.ref x,key],[]⟩=pure [(("self":Str),Value.ref x),(("key":Str),key)] from rfl]
 refine wpAny_pure (wpAny_newFunctionEnv (by decide) (by intro y hy;simp at hy;rcases hy with rfl | rfl <;> rfl) (fun h₁ hn hsb=>?_) rfl)
 refine xAA (missFrame S hm rk hn hsb) fun S1 T1 F1=>?_
 refine ⟨S1.base.noLimit,codeAny_of_own ?_⟩
 show wpOwn _ _ _ (do point;match ← (execs (fBody (methAt 4 1)) (missEnv s.heap.objs.size)).onRaise (leaving (missEnv s.heap.objs.size)) with | .ret v=>ret v | _=>ret .none) _ _ _
 refine own_then (wpAny_point (wpOwn_bind (own_onRaise ?_)))
 rw [hb]
 show wpOwn _ _ _ ((standAt pos >>= fun _=>eval _ (missEnv s.heap.objs.size) >>= fun v=>pure (Flow.ret v)) >>= fun f=>match f with | .next=>execs [] (missEnv s.heap.objs.size) | f=>pure f) _ _ _
 refine wpOwn_bind (own_then (wpAny_standAt (wpOwn_bind ?_)))
 have hAd:A.under (.func (fBody (methAt 4 1)) (missEnv s.heap.objs.size))=A.deeper (missEnv s.heap.objs.size):=by
  obtain ⟨hd,dd,fr,gs,u⟩:=A
  refine xE hA.frames fun l hl=>?_
  dsimp only at hl
  subst hl
  rfl
 refine wpOwn_mono (Q:=Q) (E:=fun _ _=>False) ?key (fun v s' q=>?_) (fun _ _ z=>z.elim)
 case key=>exact own_miss hAd S1 hsup hget F1 hs hm fun h' tk bq t T2 S2 F2 hbq hz=>h _ _ h' tk bq t p0 pc (fun _ _=>False) (hA.deeper _) (T1.trans0 T2) S2 F2 hbq hz
 exact own_pure (own_pure (own_pure q))
end Mine
namespace Mine
open PySem PySem.W PySem.Calls PyProof.Rows Builtin Builtin.ObjectAttr Builtin.Getset_descriptor
variable {w : World} {ad : Adr} {r : Nat} {st st₁ st₂ st₃ : St} {env : Env} {loc loc₁ loc₂ loc₃ : Loc}
theorem bound_call {A:Around} {E:Value→Shared→Prop} {s:Shared} {Q:Value→Shared→Prop} {x bq:Addr} {ox:Obj} {od:Option Obj} {key:Value} (X:(fragK w).In s.heap) (I:InstAt s.heap x ox 108 od) (hb:s.heap.get? bq=some (boundB ddMiss (.ref x)))
  (h:codeAny (model prog w) A (.builtin ddMiss ⟨[.ref x,key],[]⟩) (fun r s'=>match r with | .ok (.ret v)=>Q v s' | .ok _=>False | .error e=>E e s') s):wpAny (model prog w) A (call (.ref bq) [key]) Q E s:=by
 refine wpAny_call (codeAny_of_tree ?_)
 show wpAny _ A.in1 (callAny (.ref bq) _) _ _ _
 obtain ⟨hp,g,dr,tk,os⟩:=s
 dsimp only at X I hb
 have L0:=I.type (M:=model prog w)
 have L1:Looks (model prog w) hp (isInstance (.ref x) (.type "module")) false:=L0.andThen (looks_subIn X (by kernel_rfl))
 have L2:Looks (model prog w) hp (isType (.ref x)) false:=looks_notType I.at_ I.no
 have L3:Looks (model prog w) hp (typeOf (.ref 108)) (.type "type"):=looks_typeIn X (by kernel_rfl)
 have h108:=X 108 _ rfl
 refine wpAny_bind (wpAny_load hb ?_)
 show wpAny _ _ (checkBoundCall ddMiss ⟨[.ref x,key],[]⟩ >>= fun _=>again (.builtin ddMiss ⟨[.ref x,key],[]⟩)) _ _ _
 unfold checkBoundCall
 repeat lk
 exact ⟨Code.quiet_builtin _ (by decide +kernel),h⟩
section
variable {A:Around} {R:Result→Shared→Prop} {s:Shared}
theorem codeAny_call_lam {a:Addr} {args:Args} {o:Obj} {fd:FuncData} {e:Expr} (hroom:A.depth < recursionLimit) (ho:s.heap.get? a=some o)
  (hd':o.data=.func fd) (hco:fd.scope.isCoroutine=false) (hgen:fd.scope.isGenerator=false) (hbody:fd.body=.expr e) (hcd:s.heap.CodeRec fd.code fd.qualname)
  (h:wpAny (model prog w) A.in1 (bindArgs fd args) (fun binds s₁ =>
   wpAny (model prog w) A.in1 (newFunctionEnv fd.scope fd.globals fd.closure binds (fd.qualname++".<locals>.") (some a) fd.code none fd.builtins)
    (fun env s₂=>s₂.heap.NoLimit∧codeAny (model prog w) A (.expr e env) R s₂) (fun e s'=>R (.error e) s') s₁) (fun e s'=>R (.error e) s') s) :
  codeAny (model prog w) A (.call (.ref a) args) R s:=by
 refine codeAny_of_tree ?_
 show wpAny _ A.in1 (callAny (.ref a) args) _ _ s
 simp only [callAny]
 refine wpAny_bind (wpAny_load ho ?_)
 refine xEEEEAAA hcd fun c oc vs tq hc hoc hdc hq=>?_
 simp only [hd',callFunction,hco,hgen,hbody,hc]
 rw [hc] at h
 refine wpAny_bind (m:=field (.ref c) 1) (wpAny_field hoc hdc hq (wpAny_bind (wpAny_pure ?_)))
 exact wpAny_bind (wpAny_mono h (fun binds s₁ h₁=>wpAny_bind (wpAny_mono h₁ (fun env s₂ h₂=>wpAny_bind (wpAny_enterFrame h₂.1 hroom
  (wpAny_pure (And.intro rfl h₂.2)))) fun _ _ h'=>h')) fun _ _ h'=>h')
theorem codeAny_lam {e:Expr} {env:Env} (h:wpAny (model prog w) (A.deeper env) (eval e env) (fun v s'=>R (.ok (.ret v)) s') (fun _ _=>False) s):codeAny (model prog w) A (.expr e env) R s:=by
 refine codeAny_of_tree ?_
 show wpAny _ (A.deeper env) (do point;ret (← (eval e env).onRaise (leaving env))) _ _ s
 exact wpAny_bind (wpAny_point (wpAny_bind (wpAny_onRaise (wpAny_mono h (fun v s' h'=>wpAny_pure h') fun _ _ z=>z.elim))))
end
noncomputable abbrev ddFac:String:="collections.defaultdict.default_factory"
section
variable {prog:Program} {A:Around} {E:Value→Shared→Prop} {s:Shared} {x:Addr} {ox:Obj} {od:Option Obj}
theorem entry_ddf:entryFor table ddFac=some Builtin.«collections.defaultdict.default_factory»:=entryFor_of_tree (by kernel_rfl)
theorem mem_get {Q:Value→Shared→Prop} {d:Option Addr} {dt:Data} {fac:Value} (X:(fragK w).In s.heap) (hg:s.heap.get? x=some ⟨.ref 108,d,dt,#[some fac]⟩) (hf:fac≠.none) (h:Q fac s) :
  wpAny (model prog w) A (call (.builtin "member_descriptor.__get__") [.builtin ddFac,.ref x,.ref 108]) Q E s:=by
 have Lt:typeOf (.builtin ddFac)=pure (.type "member_descriptor"):=(by show builtinType _=_;rw [builtinType_eq_fast];kernel_rfl)
 refine wpAny_call (codeAny_call_builtin KF.slot_mem.plain KF.entry_mem (KF.slot_mem.check _ _ _ _ _ _ _ _ Lt (KF.args_mem _ _ _) ?_))
 obtain ⟨hp,g,dr,tk,os⟩:=s
 have L0:Looks (model prog w) hp (typeOf (.ref x)) (.ref 108):=(Looks.ld hg).andThen .now
 dsimp only at hg X
 unfold Builtin.«member_descriptor.__get__» descrGet
 rw [dga_obj]
 refine wpAny_bind (wpAny_pure ?_)
 have Li:Looks (model prog w) hp (isInstance (.ref x) (.type (".".intercalate (ddFac.cutAt '.').dropLast))) true:=by
  rw [show (".".intercalate (ddFac.cutAt '.').dropLast)="collections.defaultdict" from by decide +kernel]
  exact L0.andThen (looks_subIn X (by kernel_rfl))
 unfold descrGetter descrCheckInstance descrNameAndClass
 repeat lk
 refine ⟨Code.quiet_builtin _ (by decide +kernel),codeAny_builtin entry_ddf ?_⟩
 unfold Builtin.«collections.defaultdict.default_factory»
 repeat lk
 have e:((Option.filter (fun x=>x != Value.none) (some fac)).getD Value.none)=fac:=by simp [Option.filter,hf]
 show Q ((Option.filter (fun x=>x != Value.none) (some fac)).getD Value.none) _
 rw [e];exact h
theorem own_usual {C:Addr} {T gi:String} {name:Str} {f:Value} {tf:Value} {pl:Sem Bool} {Q:Value × List Value→Shared→Prop} (G:OwnGA w C T gi) (hcan:(Manifest.canonical gi != "object.__getattribute__")=false) (X:(fragK w).In s.heap) (I:InstAt s.heap x ox C od)
  (hf:findIn (fragK w) (.ref C) name=some (some f)) (ht:typeIn (fragK w) f=some tf) (hk:(tf != .type "function" && tf != .type "method_descriptor" && tf != .type "wrapper_descriptor")=true)
  (h:wpAny (model prog w) A (getAttr (.ref x) name) (fun v=>Q (v,[])) E s):wpAny (model prog w) A (getMethod (.ref x) name pl) Q E s:=by
 obtain ⟨hp,g,d,t,os⟩:=s
 have L0:=I.type (M:=model prog w)
 have L1:=looks_findIn (M:=model prog w) X G.find
 have L2:=looks_findIn (M:=model prog w) X G.hook
 have L3:=looks_findIn (M:=model prog w) X hf
 have L4:=looks_typeIn (M:=model prog w) X ht
 unfold getMethod specialOf
 refine wpAny_bind (wpAny_bind (L0.at (L1.at ?_)))
 dsimp only
 rw [hcan,if_neg Bool.false_ne_true]
 refine wpAny_bind (wpAny_bind (L0.at (L2.at ?_)))
 refine wpAny_bind (wpAny_bind (L0.at (L3.at (wpAny_bind (L4.at ?_)))))
 rw [if_pos hk]
 exact wpAny_bind (wpAny_mono h (fun _ _ z=>wpAny_pure z) fun _ _ z=>z)
end
theorem lamF_body:lBody lamF=.Call (.Attribute (.Name ("self":Str) { line:=43,col:=35,endLine:=43,endCol:=39 }) ("default_factory":Str) { line:=43,col:=35,endLine:=43,endCol:=55 }) [] [] { line:=43,col:=35,endLine:=43,endCol:=57 }:=rfl
theorem lamF_names:∀ y∈(lScope lamF).names,y.2≠.cell:=by decide
noncomputable abbrev lamEnvF (L fl cx:Addr) (cd:Value):Env:=newEnv (lScope lamF) L mainGlobals [(("self":Str),cx)] (qualF++".<locals>.") (some fl) cd none builtinsNs
theorem lamF_call {A:Around} {E:Value→Shared→Prop} {s:Shared} {Q:Value→Shared→Prop} {μ:Mu} {n k:Nat} {x d fl cx y c:Addr} {o:Obj} {pm ct key:Value} {nodes:Bool} {es:List (V × V)} {fr:Option Nat} {v:V}
  (hA:AOk (r + 2) A) (S:Sim w ad μ st s.heap) (hs:st[n]?=some (.fdd nodes es fr)) (hm:μ[n]?=some (x,d)) (hk:st[k]?=some (.cel n)) (hc:μ[k]?=some (cx,y)) (ho:s.heap.get? fl=some o) (hod:o.data=.func (lamFd lamF qualF [(("self":Str),cx)] ct (.ref c) pm)) (hcf:CodeFix s.heap c qualF)
  (CF:TFac w ad r st nodes v st₁) (h:∀ mv h' tk μ',Step ad.tabs [] μ s.heap μ' h'→Sim w ad μ' st₁ h'→RV cPair μ' h' v mv→Q mv { s with heap:=h',toks:=tk }) :
  wpAny (model prog w) A (call (.ref fl) [key]) Q E s:=by
 refine xAEAEA (S.obj k _ _ hc hk) fun e2 q hq oc' hcell hcd=>?_
 rw [hm] at hq;obtain rfl:=Option.some.inj hq
 refine xEEEAAA hcf fun oc vs t c1 c2 c3 c4=>?_
 refine wpAny_call (codeAny_call_lam (e:=lBody lamF) hA.room ho hod rfl rfl rfl ⟨c,oc,vs,t,rfl,c1,c3,c4⟩ ?_)
 rw [show bindArgs (lamFd lamF qualF [(("self":Str),cx)] ct (.ref c) pm) ⟨[key],[]⟩=pure [(("key":Str),key)] from rfl]
 refine wpAny_pure (wpAny_newFunctionEnv lamF_names (by intro y hy;simp at hy;subst hy;rfl) (fun h₁ hn hsb=>?_) rfl)
 have keep:∀ b o,s.heap.get? b=some o→h₁.get? b=some o:=fun b o e=>(hsb.2 b (Nat.ne_of_lt (Heap.lt_size e))).trans (Heap.get?_push_of_some _ e)
 have sz:s.heap.objs.size≤h₁.objs.size:=by rw [hsb.1,Heap.size_push];exact Nat.le_succ _
 have S1:=S.grow sz keep
 have T1:Step ad.tabs [] μ s.heap μ h₁:=.grow sz keep
 refine ⟨S1.base.noLimit,codeAny_lam ?_⟩
 rw [lamF_body]
 refine methodCall_KW (pl:=do return (← importBound (.Name ("self":Str) { line:=43,col:=35,endLine:=43,endCol:=39 }) (lamEnvF s.heap.objs.size fl cx (.ref c))).getD true) ?_ (by with_unfolding_all rfl)
 refine wpAny_Name (wpAny_loadName_free (c:=cx) (v:=.ref x) rfl rfl rfl ⟨oc',keep _ _ hcell,hcd⟩ ?_) (by decide)
 refine S1.fddOn hs hm fun hxd ens kk fac dn des hg he hnd hfac hd hfro=>?_
 refine xEEEA (hfac.fn S1.base) fun flo oo fdo q'1 r'2=>?_;subst q'1;refine xA r'2 fun hfo hfd=>?_
 refine own_usual ownFdd (by decide +kernel) S1.base.frag (fddInst hg hd) (f:=.builtin ddFac) (tf:=.type "member_descriptor") (by kernel_rfl) (by kernel_rfl) (by decide) ?_
 refine own_bind (g:=.builtin "member_descriptor.__get__") (a:=.builtin ddFac) ownFdd S1.base.frag (fddInst hg hd) (by kernel_rfl) ?_
 refine mem_get S1.base.frag hg (by intro e;cases e) (wpAny_pure ?_)
 refine callWith_function (o:=oo) (PySem.evalArgs_none ⟨⟨hfo,hfd⟩,?_⟩)
 refine CF _ _ _ μ _ _ (AOk.deeper (hA:AOk (r + 1 + 1) A) _).weaken S1 hfac fun mv h' tk' μ' T S' rv=>?_
 exact h mv h' tk' μ' (T1.trans0 T) S' rv
theorem miss_new {K:Type} [DecidableEq K] {knd:KeyKind Mine.prog w K} {inj:K→V} {A:Around} {E:Value→Shared→Prop} {s:Shared} {Q:Value→Shared→Prop} {μ:Mu} {n:Nat} {x d:Addr} {nodes:Bool} {kvs:List (K × V)} {k:K} {key:Value} {v:V}
  (hA:AOk (r + 4) A) (S:Sim w ad μ st s.heap) (hsup:ad.mg "super"=none) (hget:ad.mg "getattr"=none) (hs:st[n]?=some (.fdd nodes (onV inj kvs) none)) (hm:μ[n]?=some (x,d))
  (I:KI w knd inj) (_hkey:knd.is k key=true) (rk:RV cPair μ s.heap (inj k) key) (CF:TFac w ad r st nodes v st₁) (hs₁:st₁[n]?=some (.fdd nodes (onV inj kvs) none)) (hnew:vAt kvs k=none) (hz:kvs.length≤2 ^ 20)
  (h:∀ mv h' tk μ',Step ad.tabs [] μ s.heap μ' h'→Sim w ad μ' (st₁.set n (.fdd nodes (onV inj (kvs++[(k,v)])) none)) h'→RV cPair μ' h' v mv→Q mv { s with heap:=h',toks:=tk }) :
  wpAny (model prog w) A (call (.ref 98) [.ref x,key]) Q E s:=by
 refine miss_call (r:=r + 3) hA S hsup hget hs hm rk fun A' L h1 tk bq t p0 pc E' hA' T1 S1 F1 hbq hbz=>?_
 refine S1.fddOn hs hm fun hxd ens kk fac dn des hg he hnd hfac hd hfro=>?_
 have hdes:des=#[]:=hfro
 subst hdes
 refine frozen_miss hA'.handled S1.base.noThird S1.base.frag (fddInst hg hd) fun h2 tk2 k2=>?_
 have sz2:h1.objs.size≤h2.objs.size:=by
  rw [hbz];exact Heap.lt_size (k2 _ _ hbq)
 have S2:=S1.grow sz2 k2
 have T2:Step ad.tabs [] μ h1 μ h2:=.grow sz2 k2
 have F2:=F1.up S1 T2
 refine callWith_of (P:=fun h=>h.get? bq=some (boundB ddMiss (.ref x))∧(fragK w).In h) rfl (fun h X=>⟨.machine,.inr (.inl rfl),(Looks.ld (part:=none) X.1).andThen (Looks.of_pure rfl)⟩) (evalArgs_plain (spliced_cons ?_))
 refine xEA F2.ns fun ml hn hv=>?_
 refine xEA (hv ("key":Str) (inj k) (by rfl) (mk_key L)) fun mvs e1 rs=>?_
 refine wpAny_Name (wpAny_loadName_local (env:=missEnv L) rfl (mk_key L) hn e1 ?_) (by decide)
 have hb2:=k2 _ _ hbq
 refine spliced_nil ⟨⟨hb2,S2.base.frag⟩,?_⟩
 refine S2.fddOn hs hm fun hxd3 ens3 kk3 fac3 dn3 des3 hg3 he3 hnd3 hfac3 hd3 hfro3=>?_
 refine bound_call S2.base.frag (fddInst hg3 hd3) hb2 ?_
 refine dd_body (r:=r) ?_ S2 hm hs I (I.of _ _ _ (I.rv _ _ _ _ rs)).1 rs CF hs₁ hnew hz fun mv h4 tk4 μ4 T4 S4 r4=>?_
 ·exact ⟨hA'.handled,hA'.frames,by have:=hA'.depth;omega,by have:=hA'.units;omega⟩
 ·exact h mv h4 tk4 μ4 ((T1.trans0 T2).trans0 T4) S4 r4
theorem miss_frozen {A:Around} {E:Value→Shared→Prop} {s:Shared} {Q:Value→Shared→Prop} {μ:Mu} {n k:Nat} {x d:Addr} {nodes:Bool} {es:List (V × V)} {kv:V} {key:Value} {v:V}
  (hA:AOk (r + 4) A) (S:Sim w ad μ st s.heap) (hsup:ad.mg "super"=none) (hget:ad.mg "getattr"=none) (hs:st[n]?=some (.fdd nodes es (some k))) (hk:st[k]?=some (.cel n)) (hm:μ[n]?=some (x,d))
  (rk:RV cPair μ s.heap kv key) (CF:TFac w ad r st nodes v st₁)
  (h:∀ mv h' tk μ',Step ad.tabs [] μ s.heap μ' h'→Sim w ad μ' st₁ h'→RV cPair μ' h' v mv→Q mv { s with heap:=h',toks:=tk }) :
  wpAny (model prog w) A (call (.ref 98) [.ref x,key]) Q E s:=by
 refine miss_call (r:=r + 3) hA S hsup hget hs hm rk fun A' L h1 tk bq t p0 pc E' hA' T1 S1 F1 hbq hbz=>?_
 refine S1.fddOn hs hm fun hxd ens kk fac dn des hg he hnd hfac hd hfro=>?_
 refine xEEEE hfro fun t' fl o pm r'1=>?_;try clear hfro;refine xEEEEA r'1 fun c cx y ct q'2 r'3=>?_;subst q'2;refine xAAAA r'3 fun hcx hfo hfc hfd hcf=>?_
 refine frozen_hit S1.base.frag (fddInst hg hd) ?_
 refine xEA F1.ns fun ml hn hv=>?_
 refine xEA (hv ("key":Str) kv (by rfl) (mk_key L)) fun mvs e1 rs=>?_
 refine callWith_of (P:=fun h=>h.get? fl=some o) rfl (fun h X=>⟨.frame,.inl rfl,(Looks.ld (part:=none) X).andThen (by rw [hfd];exact Looks.now)⟩) (evalArgs_plain (spliced_cons ?_))
 refine wpAny_Name (wpAny_loadName_local (env:=missEnv L) rfl (mk_key L) hn e1 ?_) (by decide)
 refine spliced_nil ⟨hfo,?_⟩
 refine lamF_call (r:=r) ?_ S1 hs hm hk hcx hfo hfd hcf CF fun mv h4 tk4 μ4 T4 S4 r4=>?_
 ·exact ⟨hA'.handled,hA'.frames,by have:=hA'.depth;omega,by have:=hA'.units;omega⟩
 ·exact h mv h4 tk4 μ4 (T1.trans0 T4) S4 r4
structure NoHide (ad:Adr):Prop where
 sup:ad.mg "super"=none
 get:ad.mg "getattr"=none
section
variable {K:Type} [DecidableEq K] {knd:KeyKind Mine.prog w K} {inj:K→V} {value slice:Expr} {n:Nat} {nodes:Bool} {kvs:List (K × V)} {k:K} {v:V} {fr:Option Nat}
theorem SubOk.hit (I:KI w knd inj) (hs:st[n]?=some (.fdd nodes (onV inj kvs) fr)) (hv:vAt kvs k=some v)
  (hsub:∀ (a:Addr) (x:Value),subscripted slice false (.ref a) x=operate [.ref a,x] (getItem (.ref a) x)):SubOk w ad r st value slice (.ref n) (inj k) v st:=by
 intro A E s μ x y Q hA S rx ry hq
 refine rx.ref_ fun _ _ hm=>?_
 refine S.fddOn hs hm fun hxd ens kk fac dn des hg he hnd hfac hd hfro=>?_
 refine tail_fdd S.base.frag hg hd (hsub _ _) (call_dictget S.base.frag (S.notSys hm) hg hd I he (I.of _ _ _ (I.rv _ _ _ _ ry)).1 (fun v' mv e rv=>?_) (fun e=>?_))
 ·rw [hv] at e;obtain rfl:=Option.some.inj e
  exact hq mv s.heap _ μ .refl S rv
 ·rw [hv] at e;exact somen e
theorem SubOk.miss (I:KI w knd inj) (P:NoHide ad) (hs:st[n]?=some (.fdd nodes (onV inj kvs) none)) (hv:vAt kvs k=none) (CF:TFac w ad r st nodes v st₁) (hs₁:st₁[n]?=some (.fdd nodes (onV inj kvs) none)) (hz:kvs.length≤2 ^ 20)
  (hsub:∀ (a:Addr) (x:Value),subscripted slice false (.ref a) x=operate [.ref a,x] (getItem (.ref a) x)):SubOk w ad (r + 5) st value slice (.ref n) (inj k) v (st₁.set n (.fdd nodes (onV inj (kvs++[(k,v)])) none)):=by
 intro A E s μ x y Q hA S rx ry hq
 refine rx.ref_ fun _ _ hm=>?_
 refine S.fddOn hs hm fun hxd ens kk fac dn des hg he hnd hfac hd hfro=>?_
 refine tail_fdd S.base.frag hg hd (hsub _ _) (call_dictget S.base.frag (S.notSys hm) hg hd I he (I.of _ _ _ (I.rv _ _ _ _ ry)).1 (fun v' mv e rv=>?_) (fun e=>?_))
 ·rw [hv] at e;exact nsome e
 ·exact miss_new (s:={ s with toks:=s.toks + 1 }) (r:=r) hA.in1 S P.sup P.get hs hm I (I.of _ _ _ (I.rv _ _ _ _ ry)).1 ry CF hs₁ hv hz fun mv h' tk μ' T S' rv=>hq mv h' tk μ' T S' rv
theorem SubOk.missF {cl:Nat} (I:KI w knd inj) (P:NoHide ad) (hs:st[n]?=some (.fdd nodes (onV inj kvs) (some cl))) (hcl:st[cl]?=some (.cel n)) (hv:vAt kvs k=none) (CF:TFac w ad r st nodes v st₁)
  (hsub:∀ (a:Addr) (x:Value),subscripted slice false (.ref a) x=operate [.ref a,x] (getItem (.ref a) x)):SubOk w ad (r + 5) st value slice (.ref n) (inj k) v st₁:=by
 intro A E s μ x y Q hA S rx ry hq
 refine rx.ref_ fun _ _ hm=>?_
 refine S.fddOn hs hm fun hxd ens kk fac dn des hg he hnd hfac hd hfro=>?_
 refine tail_fdd S.base.frag hg hd (hsub _ _) (call_dictget S.base.frag (S.notSys hm) hg hd I he (I.of _ _ _ (I.rv _ _ _ _ ry)).1 (fun v' mv e rv=>?_) (fun e=>?_))
 ·rw [hv] at e;exact nsome e
 ·exact miss_frozen (s:={ s with toks:=s.toks + 1 }) (r:=r) hA.in1 S P.sup P.get hs hcl hm ry CF fun mv h' tk μ' T S' rv=>hq mv h' tk μ' T S' rv
end
theorem kiStr:KI w (PySem.strKind Mine.prog w) V.str where
 of:=fun k mv hs H=>by
  refine xA H fun z'1 q'3=>?_;refine xE z'1 fun t q'2=>?_;subst q'2;subst q'3
  exact ⟨by simp [PySem.strKind,Value.isStrOf],rfl⟩
 rv:=fun μ h k mv H=>by
  refine xE H.strE fun _ q'1=>?_;subst q'1
  exact ⟨⟨_,rfl⟩,rfl⟩
 inj:=fun a b e=>by injection e
theorem kiInt:KI w (intKind Mine.prog w) V.int where
 of:=fun k mv hs H=>by
  refine xA H fun z'1 q'3=>?_;refine xE z'1 fun t q'2=>?_;subst q'2;subst q'3
  exact ⟨by simp [intKind,Value.isInt],rfl⟩
 rv:=fun μ h k mv H=>by
  refine xE H.intE fun _ q'1=>?_;subst q'1
  exact ⟨⟨_,rfl⟩,rfl⟩
 inj:=fun a b e=>by injection e
theorem mem_lookupN {β:Type}:∀ {l:List (Nat × β)} {x:Nat} {c:β},l.lookup x=some c→(x,c)∈l
 | (y,d) :: l,x,c,e=>by
  rw [List.lookup_cons] at e
  cases hb:x == y with
  | true=>rw [hb] at e;obtain rfl:=Option.some.inj e;rw [eq_of_beq hb];exact .head _
  | false=>rw [hb] at e;exact .tail _ (mem_lookupN e)
section
variable {A:Around} {R:Result→Shared→Prop} {s:Shared}
theorem entry_dnew:entryFor table "dict.__new__"=some Builtin.«dict.__new__»:=entryFor_of_tree (by kernel_rfl)
theorem entry_ddi:entryFor table "collections.defaultdict.__init__"=some Builtin.«collections.defaultdict.__init__»:=entryFor_of_tree (by kernel_rfl)
theorem entry_dinit:entryFor table "dict.__init__"=some Builtin.«dict.__init__»:=entryFor_of_tree (by kernel_rfl)
theorem fdd_new {fac:Value} {Q:Value→Shared→Prop} {E:Value→Shared→Prop} (X:(fragK w).In s.heap) (hno:∃ mc,s.heap.Ns cStatics mc∧mc "thirdparty.any"=none)
  (h:Q (.ref (s.heap.objs.size + 1)) { s with heap:=(s.heap.push { cls:=.type "dict",data:=.dict #[] }).push { cls:=.ref 108,dict:=some s.heap.objs.size,data:=.dict #[] } }) :
  wpAny (model prog w) A (call (.builtin "dict.__new__") [.ref 108,fac]) Q E s:=by
 refine wpAny_call (codeAny_call_builtin_code (Code.quiet_builtin _ (by decide +kernel)) ?_)
 refine (Looks.of_peek (r:=()) X (by kernel_rfl)).here ?_
 refine codeAny_builtin entry_dnew ?_
 obtain ⟨hp,g,dr,tk,os⟩:=s
 refine run_all 60 (t':=.pure (.done (.ret (.ref (hp.push { cls:=.type "dict",data:=.dict #[] }).objs.size)))) (h':=(hp.push { cls:=.type "dict",data:=.dict #[] }).push { cls:=.ref 108,dict:=some hp.objs.size,data:=.dict #[] }) (tk':=tk) X (by kernel_rfl) (nd_pure ?_)
 show Q (.ref (hp.push _).objs.size) _
 rw [Heap.size_push]
 exact h
noncomputable abbrev fdd0 (d:Addr):Obj:={ cls:=.ref 108,dict:=some d,data:=.dict #[] }
theorem fdd_init {x d fl:Addr} {of':Obj} {Q:Value→Shared→Prop} {E:Value→Shared→Prop} (X:(fragK w).In s.heap) (hx:s.heap.get? x=some (fdd0 d)) (hf:s.heap.get? fl=some of') (hc:of'.cls=.type "function")
  (h:∀ h',Heap.SameBut x s.heap h'→h'.get? x=some (fddOf d #[] 0 (.ref fl))→Q .none { s with heap:=h' }) :
  wpAny (model prog w) A (call (.builtin "collections.defaultdict.__init__") [.ref x,.ref fl]) Q E s:=by
 obtain ⟨hp,g,dr,tk,os⟩:=s
 dsimp only at X hx hf h
 have L0:Looks (model prog w) hp (typeOf (.ref x)) (.ref 108):=(Looks.ld hx).andThen .now
 have Lf:Looks (model prog w) hp (typeOf (.ref fl)) (.type "function"):=by
  rw [← hc];exact (Looks.ld hf).andThen .now
 have L1:Looks (model prog w) hp (isInstance (.ref x) (.type "collections.defaultdict")) true:=L0.andThen (looks_subIn X (by kernel_rfl))
 have Ls:Looks (model prog w) hp (specialOf (.ref fl) (Str.ofString "__call__")) (some (.builtin "function.__call__")):=Lf.andThen (Looks.of_pure (by rw [typeLookup_type,builtinLookup_eq_fast];kernel_rfl))
 refine wpAny_call (codeAny_call_builtin (by decide +kernel) entry_ddi ?_)
 refine @check_slot (model prog w) _ _ _ "collections.defaultdict.__init__" "collections.defaultdict" "__init__" (.ref x) [.ref fl] [] _ (by decide +kernel) (by decide +kernel) L1 (by unfold argsOk;kernel_rfl) ?_
 unfold Builtin.«collections.defaultdict.__init__» Collections_defaultdict.setFactory setSlotAt
 repeat first | (with_reducible refine wpAny_updatePart hx ?_) | (with_reducible refine wpAny_runValue ?_) | lk
 have hx1:(hp.update x fun o=>{ o with slots:=(o.slots++Array.replicate (0 + 1 - o.slots.size) none).setIfInBounds 0 (some (.ref fl)) }).get? x=some (fddOf d #[] 0 (.ref fl)):=Heap.get?_update_self _ hx (by rfl)
 have C:Heap.SameBut x hp (hp.update x fun o=>{ o with slots:=(o.slots++Array.replicate (0 + 1 - o.slots.size) none).setIfInBounds 0 (some (.ref fl)) }):=Heap.SameBut.update ..
 show codeAny _ _ _ _ ⟨hp.update x fun o=>{ o with slots:=(o.slots++Array.replicate (0 + 1 - o.slots.size) none).setIfInBounds 0 (some (.ref fl)) },g,dr,tk,os⟩
 generalize (hp.update x fun o=>{ o with slots:=(o.slots++Array.replicate (0 + 1 - o.slots.size) none).setIfInBounds 0 (some (.ref fl)) })=h1 at hx1 C ⊢
 have X1:(fragK w).In h1:=fun a o e=>by
  by_cases hax:a=x
  ·subst hax
   rw [X _ _ e] at hx;obtain rfl:=Option.some.inj hx
   have:(fragK w).all (fun p=>p.2.cls != .ref 108)=true:=rfl
   exact absurd (List.all_eq_true.mp this (a,fdd0 d) (mem_lookupN e)) (by simp)
  ·exact (C.2 a hax).trans (X _ _ e)
 have L2:Looks (model prog w) h1 (isSubtype (fddOf d #[] 0 (.ref fl)).cls (.type "collections.OrderedDict")) false:=looks_subIn X1 (by kernel_rfl)
 refine codeAny_builtin entry_dinit ?_
 unfold Builtin.«dict.__init__» Builtin.Dict.selfAndRest
 repeat lk
 exact h h1 C hx1
end
theorem Step.snoc {tabs X:List Addr} {μ:Mu} {h h':Heap} {p:Addr × Addr} (sz:h.objs.size≤h'.objs.size) (keep:∀ b o,h.get? b=some o→h'.get? b=some o) (hp:h.objs.size≤p.1∧h.objs.size≤p.2):Step tabs X μ h (μ++[p]) h' :=
 ⟨⟨[p],rfl,by simpa using hp⟩,sz,fun b o e _ _ _=>.inl (keep b o e)⟩
theorem Sim.snoc {μ:Mu} {h h':Heap} (S:Sim w ad μ st h) {p:Addr × Addr} {o:MObj} (sz:h.objs.size≤h'.objs.size) (keep:∀ b o,h.get? b=some o→h'.get? b=some o) (hp:h.objs.size≤p.1∧h.objs.size≤p.2)
  (R:ORel w ad (μ++[p]) h' p o):Sim w ad (μ++[p]) (st++[o]) h':=by
 have T:Step ad.tabs [] μ h (μ++[p]) h':=.snoc sz keep hp
 have old:∀ (n:Nat) (q:Addr × Addr),μ[n]?=some q→q.1 < h.objs.size∧q.2 < h.objs.size:=fun n q e=>⟨muts_lt S (mem_muts.mpr ⟨n,q,e,.inl rfl⟩),muts_lt S (mem_muts.mpr ⟨n,q,e,.inr rfl⟩)⟩
 refine ⟨S.base.ext (X:=[]) sz (fun b o _ e=>keep b o e) (fun _ q=>nomatch q) Loose.nil,by simp [S.len],fun n q ob hn ho=>?_,fun a ha=>?_,fun i j q u hq hu hij=>?_⟩
 ·by_cases hl:n < μ.length
  ·rw [List.getElem?_append_left hl] at hn
   rw [List.getElem?_append_left (S.len ▸ hl)] at ho
   exact (S.obj n q ob hn ho).up S T Loose.nil (fun o e=>keep _ o e) (fun o e=>keep _ o e)
  ·have hn':n=μ.length:=by
    have:=(List.getElem?_eq_some_iff.mp hn).1
    simp at this;omega
   subst hn'
   rw [List.getElem?_append_right (Nat.le_refl _)] at hn
   rw [S.len,List.getElem?_append_right (Nat.le_refl _)] at ho
   simp at hn ho
   subst hn ho
   exact R
 ·rcases mem_muts_append.mp ha with ha | ha
  ·exact S.high a ha
  ·simp [muts] at ha
   rcases ha with rfl | rfl
   ·exact Nat.le_trans S.base.size hp.1
   ·exact Nat.le_trans S.base.size hp.2
 ·have cases_:∀ k (x:Addr × Addr),(μ++[p])[k]?=some x→(k < μ.length∧μ[k]?=some x)∨(k=μ.length∧x=p):=fun k x e=>by
   by_cases hl:k < μ.length
   ·rw [List.getElem?_append_left hl] at e;exact .inl ⟨hl,e⟩
   ·have:k=μ.length:=by have:=(List.getElem?_eq_some_iff.mp e).1;simp at this;omega
    subst this
    rw [List.getElem?_append_right (Nat.le_refl _)] at e
    simp at e;exact .inr ⟨rfl,e.symm⟩
  rcases cases_ i q hq with ⟨li,ei⟩ | ⟨li,ei⟩ <;> rcases cases_ j u hu with ⟨lj,ej⟩ | ⟨lj,ej⟩
  ·exact S.apart i j q u ei ej hij
  ·subst ej;have:=old i q ei
   exact ⟨Nat.ne_of_lt (Nat.lt_of_lt_of_le this.1 hp.1),Nat.ne_of_lt (Nat.lt_of_lt_of_le this.1 hp.2),Nat.ne_of_lt (Nat.lt_of_lt_of_le this.2 hp.1),Nat.ne_of_lt (Nat.lt_of_lt_of_le this.2 hp.2)⟩
  ·subst ei;have:=old j u ej
   exact ⟨Nat.ne_of_gt (Nat.lt_of_lt_of_le this.1 hp.1),Nat.ne_of_gt (Nat.lt_of_lt_of_le this.2 hp.1),Nat.ne_of_gt (Nat.lt_of_lt_of_le this.1 hp.2),Nat.ne_of_gt (Nat.lt_of_lt_of_le this.2 hp.2)⟩
  ·exact absurd (li.trans lj.symm) hij
theorem RV.last {μ:Mu} {h:Heap} (S:Sim w ad μ st h) {C:Addr} {h':Heap} {p:Addr × Addr}:RV C (μ++[p]) h' (.ref st.length) (.ref p.1) :=
 .ref (d:=p.2) (by rw [List.getElem?_append_right (Nat.le_of_eq S.len),S.len,Nat.sub_self];rfl)
theorem fdd_call {A:Around} {E:Value→Shared→Prop} {s:Shared} {Q:Value→Shared→Prop} {μ:Mu} {fl:Addr} {of':Obj} {nodes:Bool} (S:Sim w ad μ st s.heap) (hf:s.heap.get? fl=some of') (hc:of'.cls=.type "function") (hfac:FacIs ad s.heap nodes (.ref fl))
  (h:∀ mv h' tk μ',Step ad.tabs [] μ s.heap μ' h'→Sim w ad μ' (st++[.fdd nodes [] none]) h'→RV cPair μ' h' (.ref st.length) mv→Q mv { s with heap:=h',toks:=tk }) :
  wpAny (model prog w) A (call (.ref 108) [.ref fl]) Q E s:=by
 have X:=S.base.frag
 obtain ⟨hp,g,dr,tk,os⟩:=s
 dsimp only at X S hf hfac h
 have h108:=X 108 _ rfl
 have Lc:Looks (model prog w) hp (specialOf (.ref 108) (Str.ofString "__call__")) (some (.builtin "type.__call__")):=looks_specialIn X (by kernel_rfl)
 have typ:Looks (model prog w) hp (isInstance (.ref 108) (.type "type")) true:=looks_instIn X (by kernel_rfl)
 refine wpAny_call (codeAny_of_tree ?_)
 show wpAny _ _ (callAny (.ref 108) _) _ _ _
 refine nd_load h108 ?_
 show wpAny _ _ (callAny.viaDunder (.ref 108) _) _ _ _
 unfold callAny.viaDunder
 refine wpAny_bind (Lc.at ?_)
 dsimp only
 rw [tc_bind]
 refine wpAny_bind (wpAny_pure (wpAny_bind (wpAny_pure ?_)))
 refine wpAny_pure (a:=PySem.Fin.again (.call (.builtin "type.__call__") ⟨.ref 108 :: [.ref fl],[]⟩)) (And.intro rfl ?_)
 refine codeAny_call_builtin_at (Code.quiet_builtin _ (by decide +kernel)) entry_typeCall (@check_slot (model prog w) _ _ _ "type.__call__" "type" "__call__" (.ref 108) [.ref fl] [] _ tc_kind tc_split typ (tc_args _ _ _) ?_)
 unfold Builtin.«type.__call__»
 have hm:Looks (model prog w) hp (mroOf (.ref 108)) [.ref 108,.type "collections.defaultdict",.type "dict",.type "object"]:=by
  have e:clsIn (fragK w) 108=some ((clsIn (fragK w) 108).get!):=by kernel_rfl
  exact (looks_clsIn X e).andThen (Looks.of_pure (by kernel_rfl))
 repeat first | (with_reducible refine wpAny_mono (fdd_new (E:=fun _ _=>False) (Q:=fun v s'=>v=.ref (hp.objs.size + 1)∧s'=⟨(hp.push { cls:=.type "dict",data:=.dict #[] }).push (fdd0 hp.objs.size),g,dr,tk,os⟩) X S.base.noThird ⟨rfl,rfl⟩) ?_ (fun _ _ z=>z.elim)) | lk
 rintro v s' ⟨rfl,rfl⟩
 have hx:((hp.push { cls:=.type "dict",data:=.dict #[] }).push (fdd0 hp.objs.size)).get? (hp.objs.size + 1)=some (fdd0 hp.objs.size):=by
  have:=Heap.get?_push_size (hp.push { cls:=.type "dict",data:=.dict #[] }) (o:=fdd0 hp.objs.size) rfl
  rwa [Heap.size_push] at this
 have hd:((hp.push { cls:=.type "dict",data:=.dict #[] }).push (fdd0 hp.objs.size)).get? hp.objs.size=some { cls:=.type "dict",data:=.dict #[] }:=Heap.get?_push_of_some _ (Heap.get?_push_size _ rfl)
 have k1:∀ b o,hp.get? b=some o→((hp.push { cls:=.type "dict",data:=.dict #[] }).push (fdd0 hp.objs.size)).get? b=some o:=fun b o e=>Heap.get?_push_of_some _ (Heap.get?_push_of_some _ e)
 have sz1:hp.objs.size + 2=((hp.push { cls:=.type "dict",data:=.dict #[] }).push (fdd0 hp.objs.size)).objs.size:=by rw [Heap.size_push,Heap.size_push]
 generalize (hp.push { cls:=.type "dict",data:=.dict #[] }).push (fdd0 hp.objs.size)=h1 at hx hd k1 sz1 ⊢
 have X1:=X.keeps k1
 have L0:Looks (model prog w) h1 (typeOf (.ref (hp.objs.size + 1))) (.ref 108):=(Looks.ld hx).andThen .now
 have L1:Looks (model prog w) h1 (isInstance (.ref (hp.objs.size + 1)) (.ref 108)) true:=L0.andThen (looks_subIn X1 (by kernel_rfl))
 have L2:Looks (model prog w) h1 (specialOf (.ref (hp.objs.size + 1)) (Str.ofString "__init__")) (some (.builtin "collections.defaultdict.__init__")):=L0.andThen (looks_findIn X1 (by kernel_rfl))
 have L3:Looks (model prog w) h1 (bindSpecial (.builtin "collections.defaultdict.__init__") (.ref (hp.objs.size + 1))) (.builtin "collections.defaultdict.__init__",[.ref (hp.objs.size + 1)]):=Looks.of_pure (by kernel_rfl)
 have K2:wpAny (model prog w) (A.under (.builtin "type.__call__" ⟨[.ref 108,.ref fl],[]⟩)) (call (.builtin "collections.defaultdict.__init__") ([.ref (hp.objs.size + 1)]++[.ref fl])) (fun v s'=>v=.none∧∃ h2,s'=⟨h2,g,dr,tk,os⟩∧Heap.SameBut (hp.objs.size + 1) h1 h2∧h2.get? (hp.objs.size + 1)=some (fddOf hp.objs.size #[] 0 (.ref fl))) (fun _ _=>False) ⟨h1,g,dr,tk,os⟩ :=
  fdd_init X1 hx (k1 _ _ hf) hc fun h2 s2 e2=>⟨rfl,h2,rfl,s2,e2⟩
 unfold callSpecial?
 repeat first | (with_reducible refine wpAny_mono K2 ?_ (fun _ _ z=>z.elim)) | lk
 rintro v s' ⟨rfl,h2,rfl,s2,e2⟩
 repeat lk
 have k2:∀ b o,hp.get? b=some o→h2.get? b=some o:=fun b o e=>s2.extBut b o (Nat.ne_of_lt (Nat.lt_succ_of_lt (Heap.lt_size e))) (k1 b o e)
 have sz2:hp.objs.size≤h2.objs.size:=by rw [s2.1];omega
 have T:Step ad.tabs [] μ hp (μ++[(hp.objs.size + 1,hp.objs.size)]) h2:=.snoc sz2 k2 ⟨Nat.le_succ _,Nat.le_refl _⟩
 refine h _ h2 tk (μ++[(hp.objs.size + 1,hp.objs.size)]) T (S.snoc sz2 k2 ⟨Nat.le_succ _,Nat.le_refl _⟩ ?_) (RV.last S)
 exact ⟨Nat.ne_of_lt (Nat.lt_succ_self _),#[],0,.ref fl,e2,.nil,⟨List.nodup_nil,rfl⟩,hfac.up S T Loose.nil,0,#[],(s2.2 _ (Nat.ne_of_lt (Nat.lt_succ_self _))).trans hd,rfl⟩
end Mine
namespace Mine
open PySem PySem.W
/-! a heap never shrinks -/
noncomputable abbrev sz (s:Shared):Nat:=s.heap.objs.size
theorem runs_sz {M:Model} {Γ:Ctx} {p:Pos} {t:Sem PySem.Fin} {fs:List PySem.Frame} {s s':Shared} {e:End} (h:Runs M Γ p t fs s e s'):sz s≤sz s':=by
 induction h <;> (try simp only [sz,Shared.setGen,Heap.size_after_update,Heap.size_push] at *) <;> omega
theorem returns_sz {M:Model} {Γ:Ctx} {p:Pos} {s s':Shared} {r:Result} (h:Returns M Γ p s r s'):sz s≤sz s':=runs_sz h
theorem wakes_sz {M:Model} {Γ:Ctx} {p:Pos} {g:Nat} {r:Resume} {s s':Shared} {res:GenResult} (h:Wakes M Γ p g r s res s'):sz s≤sz s':=by
 unfold Wakes at h
 split at h
 ·exact h.elim
 ·split at h
  ·refine xEEAAA h fun e₁ s₁ hr _ _ q'1=>?_;try clear h;subst q'1;exact (runs_sz hr:sz (s.setGen g .running)≤sz s₁)
  ·rw [h.2];exact Nat.le_refl _
  ·rw [h.2];exact Nat.le_refl _
 ·refine xEEAAA h fun e₁ s₁ hr _ _ q'1=>?_;try clear h;subst q'1;exact (runs_sz hr:sz (s.setGen g .running)≤sz s₁)
 ·rw [h.2];exact Nat.le_refl _
 ·rw [h.2];exact Nat.le_refl _
theorem wp_sz {α:Type} (M:Model) (Γ:Ctx) (n:Nat) (t:Sem α):∀ (Q:α→Pos→Shared→Prop) (E:Value→Pos→Shared→Prop) (p:Pos) (s:Shared),n≤sz s→Sem.wp M Γ t Q E p s →
  Sem.wp M Γ t (fun a p' s'=>n≤sz s'∧Q a p' s') (fun e p' s'=>n≤sz s'∧E e p' s') p s:=by
 induction t with
 | pure a=>intro Q E p s hn h;exact ⟨hn,h⟩
 | raise e=>intro Q E p s hn h;exact ⟨hn,h⟩
 | unsupported _=>intro Q E p s _ h;exact h
 | finish _=>intro Q E p s _ h;exact h
 | rule _ k ih=>intro Q E p s hn h;exact ih () Q E p s hn h
 | «at» p' k ih=>intro Q E p s hn h;exact ih () Q E p' s hn h
 | load a _ k ih=>intro Q E p s hn h;refine xEA h fun o ho h=>?_;exact ⟨o,ho,ih o Q E p s hn h⟩
 | update a _ f k ih=>intro Q E p s hn h;exact ⟨h.1,ih () Q E p _ (by show n≤(s.heap.update a f).objs.size;rw [Heap.size_after_update];exact hn) h.2⟩
 | loadIfAlive a k ih=>intro Q E p s hn h;exact ih _ Q E p s hn h
 | point _ k ih=>intro Q E p s hn h;exact ih () Q E p s hn h
 | register _ _=>intro Q E p s _ h;exact h
 | alloc o k ih=>intro Q E p s hn h;exact ih _ Q E p _ (by show n≤(s.heap.push o).objs.size;rw [Heap.size_push];exact Nat.le_succ_of_le hn) h
 | fresh k ih=>intro Q E p s hn h;exact ih _ Q E p _ hn h
 | ask k ih=>intro Q E p s hn h;exact ih _ Q E p s hn h
 | choose src m k ih=>intro Q E p s hn h;exact ⟨h.1,ih _ Q E p _ hn h.2⟩
 | os q _ k ih=>intro Q E p s hn h;exact ih _ Q E p _ hn h
 | call c hd _ _ k ih=>intro Q E p s hn h;refine xEEA h fun r s' hr h=>?_;exact ⟨r,s',hr,ih r Q E p s' (Nat.le_trans hn (returns_sz hr)) h⟩
 | handled own k ih=>intro Q E p s hn h;exact ih _ Q E p s hn h
 | genState g k ih=>intro Q E p s hn h;refine xEA h fun st hs h=>?_;exact ⟨st,hs,ih _ Q E p s hn h⟩
 | newGen c k ih=>intro Q E p s hn h;exact ih _ Q E p _ hn h
 | resume g r _ k ih=>intro Q E p s hn h;refine xEEA h fun res s' hw h=>?_;exact ⟨res,s',hw,ih res Q E p s' (Nat.le_trans hn (wakes_sz hw)) h⟩
 | yield _ _ _ _=>intro Q E p s _ h;exact h
 | stack k ih=>intro Q E p s hn h;exact ih _ Q E p s hn h
 | fork _ _=>intro Q E p s _ h;exact h
 | thread k ih=>intro Q E p s hn h;exact ih _ Q E p s hn h
 | await _ _ _ _ _=>intro Q E p s _ h;exact h
section
variable {α:Type} {M:Model} {A:Around} {s:Shared}
theorem wpAny_sized {t:Sem α} {Q:α→Shared→Prop} {E:Value→Shared→Prop} (h:wpAny M A t (fun a s'=>s.heap.objs.size≤s'.heap.objs.size→Q a s') (fun e s'=>s.heap.objs.size≤s'.heap.objs.size→E e s') s):wpAny M A t Q E s:=by
 have z:wpAny M A t (fun a s'=>s.heap.objs.size≤sz s'∧(s.heap.objs.size≤s'.heap.objs.size→Q a s')) (fun e s'=>s.heap.objs.size≤sz s'∧(s.heap.objs.size≤s'.heap.objs.size→E e s')) s :=
  fun Γ p hΓ=>wp_sz M Γ s.heap.objs.size t _ _ p s (Nat.le_refl _) (h Γ p hΓ)
 exact wpAny_mono z (fun _ _ x=>x.2 x.1) (fun _ _ x=>x.2 x.1)
end
end Mine
namespace Mine
open PySem PySem.W PySem.Calls PyProof.Rows Builtin Builtin.ObjectAttr Builtin.Getset_descriptor
variable {w : World} {ad : Adr} {r : Nat} {st st₁ st₂ st₃ : St} {env : Env} {loc loc₁ loc₂ loc₃ : Loc}
theorem TS1.expr {e:Expr} {pos:Pos} {v:V} (T:TE w ad r env loc st e v st₁) (hi:interactive env=false:=by rfl) (hs:swapsWith e none pos.line env=pure false:=by rfl):TS1 w ad r env loc st (.Expr e pos) none loc st₁:=by
 intro A E s μ Q hA S F h
 exact wpAny_Expr_any (T A E s μ _ hA S F fun mv h₁ tk₁ μ₁ t₁ S₁ F₁ rv=>h .next h₁ tk₁ μ₁ t₁.wide S₁ F₁ rfl) hi hs
theorem tuple_new {A:Around} {E:Value→Shared→Prop} {s:Shared} {Q:Value→Shared→Prop} {t:Addr} {x y:Value} {n:Nat} (X:(fragK w).In s.heap) (hno:∃ mc,s.heap.Ns cStatics mc∧mc "thirdparty.any"=none) (ht:s.heap.get? t=some (tupOf #[x,y] n))
  (h:∀ h1:Heap,(∀ b o,s.heap.get? b=some o→h1.get? b=some o)→s.heap.objs.size≤h1.objs.size→Q (.ref (h1.objs.size + 1)) { s with heap:=(h1.push { cls:=.type "dict",data:=.dict #[] }).push (pairOf 203 (some h1.objs.size) x y 0) }) :
  wpAny (model prog w) A (call (.builtin "tuple.__new__") [.ref 203,.ref t]) Q E s:=by
 refine wpAny_call (codeAny_call_builtin_code (Code.quiet_builtin _ (by decide +kernel)) ?_)
 obtain ⟨hp,g,dr,tk,os⟩:=s
 dsimp only at X ht h
 have Kc:wpAny (model prog w) (A.under (.builtin "tuple.__new__" ⟨[.ref 203,.ref t],[]⟩)) (collect (.ref t)) (fun v s'=>v=[x,y]∧∃ h1:Heap,s'=⟨h1,g,dr,tk,os⟩∧(∀ b o,hp.get? b=some o→h1.get? b=some o)∧hp.objs.size≤h1.objs.size) (fun _ _=>False) ⟨hp,g,dr,tk,os⟩ :=
  wpAny_sized (wpAny_mono (wpAny_collect_seq t (.inr rfl) ht rfl rfl (Q:=fun v s'=>v=[x,y]∧∃ h1:Heap,s'=⟨h1,g,dr,tk,os⟩∧(∀ b o,hp.get? b=some o→h1.get? b=some o)) (E:=fun _ _=>False) (fun h' k=>⟨rfl,h',rfl,k⟩) (by show 2≤sizeLine;decide)) (fun v s' z hz=>by
   refine xAEA z fun e h1 q'1 k=>?_;try clear z;subst q'1
   exact ⟨e,h1,rfl,k,hz⟩) fun _ _ z=>z.elim)
 refine (Looks.of_peek (r:=()) X (by kernel_rfl)).here ?_
 refine codeAny_builtin F.entry_tuple_new (run_all 60 (t':=do let l ← collect (.ref t);let d ← alloc { cls:=.type "dict",data:=.dict #[] };let o ← newObj (.ref 203) (.seq l.toArray) (some d);ret o) (h':=hp) (tk':=tk) X (by kernel_rfl) ?_)
 refine wpAny_bind (wpAny_mono Kc ?_ (fun _ _ z=>z.elim))
 rintro v s' ⟨rfl,h1,rfl,k1,z1⟩
 refine run_all 60 (t':=.pure (.done (.ret (.ref (h1.push { cls:=.type "dict",data:=.dict #[] }).objs.size)))) (h':=(h1.push { cls:=.type "dict",data:=.dict #[] }).push (pairOf 203 (some h1.objs.size) x y 0)) (tk':=tk) (X.keeps k1) (by kernel_rfl) (nd_pure ?_)
 show Q (.ref (h1.push _).objs.size) _
 rw [Heap.size_push]
 exact h h1 k1 z1
theorem TO.tupleNew {a b:V}:TO w ad r st (fun xs=>PySem.call (.builtin "tuple.__new__") xs) [.lit (.ref 203),.tup2 a b] (.ref st.length) (st++[.pair a b]):=by
 intro A E s μ xs Q hA S hx k
 refine hx.e2 fun _ _ hx hy=>?_
 obtain rfl:=hx.litE
 refine hy.tup2_ fun _ _ _ _ e ra rb=>?_
 rename_i ta vx vy nn
 refine tuple_new S.base.frag S.base.noThird e fun h1 k1 z1=>?_
 have hx:((h1.push { cls:=.type "dict",data:=.dict #[] }).push (pairOf 203 (some h1.objs.size) vx vy 0)).get? (h1.objs.size + 1)=some (pairOf 203 (some h1.objs.size) vx vy 0):=by
  have:=Heap.get?_push_size (h1.push { cls:=.type "dict",data:=.dict #[] }) (o:=pairOf 203 (some h1.objs.size) vx vy 0) rfl
  rwa [Heap.size_push] at this
 have hd:((h1.push { cls:=.type "dict",data:=.dict #[] }).push (pairOf 203 (some h1.objs.size) vx vy 0)).get? h1.objs.size=some { cls:=.type "dict",data:=.dict #[] }:=Heap.get?_push_of_some _ (Heap.get?_push_size _ rfl)
 have k2:∀ b o,s.heap.get? b=some o→((h1.push { cls:=.type "dict",data:=.dict #[] }).push (pairOf 203 (some h1.objs.size) vx vy 0)).get? b=some o:=fun b o e=>Heap.get?_push_of_some _ (Heap.get?_push_of_some _ (k1 b o e))
 have z2:s.heap.objs.size≤((h1.push { cls:=.type "dict",data:=.dict #[] }).push (pairOf 203 (some h1.objs.size) vx vy 0)).objs.size:=by rw [Heap.size_push,Heap.size_push];omega
 have T:Step ad.tabs [] μ s.heap (μ++[(h1.objs.size + 1,h1.objs.size)]) _:=.snoc z2 k2 ⟨Nat.le_succ_of_le z1,z1⟩
 exact k _ _ _ _ T (S.snoc z2 k2 ⟨Nat.le_succ_of_le z1,z1⟩ ⟨Nat.ne_of_lt (Nat.lt_succ_self _),_,_,0,0,hx,hd,ra.up S T Loose.nil,rb.up S T Loose.nil⟩) (RV.last S)
theorem TM.tupNew:TM w ad r st (Str.ofString "__new__") (.lit (.type "tuple")) (.builtin "tuple.__new__") []:=by
 intro A E s μ x pl Q hA S hx k
 obtain rfl:=hx.litE
 exact method_ty (T:="tuple") (v:=.builtin "tuple.__new__") S.base.frag (by kernel_rfl) (by kernel_rfl) (by kernel_rfl) (by kernel_rfl) (k _ [] .nil)
noncomputable def fdNew:FuncData:=methOf 5 4 "__new__" "Pair.__new__" (.none) (.str ("Create new instance of Pair(name, value)":Str) 416) (.str ("cpy313.importlib.metadata._collections":Str) 286) (.ref 129) (.none) [] (none)
theorem TC.pairNew {a b:V} (P:Plain ad):TC w ad (r + 1) 130 st [.lit (.ref 203),a,b] (.ref st.length) (st++[.pair a b]):=by
 intro A E s μ xs Q hA S hx k
 refine TC.fd (fd:=fdNew) (bd:=fBody (methAt 5 4)) (ps:=["_cls","name","value"]) (frag_fn S.base.facts (a:=130) (c:=129) (by rfl) rfl (by rfl) (by rfl)) rfl rfl rfl rfl ?bind (by decide) rfl (by decide) (by decide) ?body rfl rfl rfl A E s μ xs Q hA S hx k
 case bind =>
  intro xs hx A E s Q B
  refine len3 (fun x y z q=>?_) xs hx
  ·rw [show bindArgs fdNew ⟨[x,y,z],[]⟩=pure _ from rfl]
   exact wpAny_pure q
 case body =>
  intro L
  refine TR.cons (TS1.expr TE.cstr) ?_
  refine TR.ret (TE.meth (first:=[]) (TE.nameB (by rfl) P.tuple (by decide) rfl) TM.tupNew Keeps1.builtin (TL.cons (ns rfl) (TE.name rfl (.inl rfl)) (TL.cons (ns rfl) (TE.tup2 (TL.cons (ns rfl) (TE.name rfl (.inl rfl)) (TL.cons (ns rfl) (TE.name rfl (.inl rfl)) TL.nil))) TL.nil)) TO.tupleNew)
theorem looks_noThird {h:Heap} (hnl:∃ mc,h.Ns cStatics mc∧mc "thirdparty.any"=none) {C:Addr}:Looks (model prog w) h (opaqueClassAbove (.ref C)) none:=by
 refine xEA hnl fun mc hn e=>?_
 refine Looks.andThen (a:=false) (fun A Q E s k q=>?_) (by show Looks _ h (if (!false)=true then pure none else _) none;rw [if_pos (show (!false)=true from rfl)];exact .now)
 unfold anyOpaqueLoaded
 refine wpAny_bind (wpAny_nsGet (hn.keeps k) ?_)
 rw [e];exact wpAny_pure q
theorem clsK_get {A:Around} {E:Value→Shared→Prop} {s:Shared} {Q:Value→Shared→Prop} {C:Addr} {name:Str} {ex:Bool} {g a obj tp:Value} (X:(fragK w).In s.heap) (hnl:∃ mc,s.heap.Ns cStatics mc∧mc "thirdparty.any"=none)
  (ht:typeIn (fragK w) (.ref C)=some (.type "type")) (e:findCls (fragK w) (.ref C) (.type "type") name=some (.get g a obj tp))
  (h:wpAny (model prog w) A.in1 (call g [a,obj,tp]) (fun v s'=>wpAny (model prog w) A (handedOut v) Q E s') (fun _ _=>False) { s with toks:=s.toks + 1 }):wpAny (model prog w) A (getAttr (.ref C) name ex) Q E s :=
 cls_open X (looks_noThird hnl) (looks_typeIn X ht) type_tga (looks_hook X (r:=none) (by rfl)) (by show subIn (fragK w) _ _=_;rfl) e (wpAny_bind (wpAny_holding (wpAny_mono h (fun _ _ z=>wpAny_pure z) fun _ _ z=>z)))
theorem AOk.tcall {A:Around} {C:Addr} {l:List Value} (h:AOk (r + 1) A):AOk r (A.under (.builtin "type.__call__" ⟨.ref C :: l,[]⟩)):=by
 obtain ⟨hd,dd,fr,gs,u⟩:=A
 obtain ⟨h1,⟨l',h2⟩,h3,h4⟩:=h
 dsimp only at h1 h2 h3 h4
 subst h2
 refine ⟨h1,⟨l',rfl⟩,?_,?_⟩
 ·show dd + (Code.builtin "type.__call__" ⟨.ref C :: l,[]⟩).weight + _≤_
  have:(Code.builtin "type.__call__" ⟨.ref C :: l,[]⟩).weight=1:=rfl
  omega
 ·show u + (Code.builtin "type.__call__" ⟨.ref C :: l,[]⟩).cUnits + _≤_
  have:(Code.builtin "type.__call__" ⟨.ref C :: l,[]⟩).cUnits=1:=rfl
  omega
theorem pair_call {A:Around} {E:Value→Shared→Prop} {s:Shared} {Q:Value→Shared→Prop} {μ:Mu} {a b:V} {x y:Value} (P:Plain ad) (hA:AOk (r + 4) A) (S:Sim w ad μ st s.heap) (ra:RV cPair μ s.heap a x) (rb:RV cPair μ s.heap b y)
  (h:∀ mv h' tk μ',Step ad.tabs [] μ s.heap μ' h'→Sim w ad μ' (st++[.pair a b]) h'→RV cPair μ' h' (.ref st.length) mv→Q mv { s with heap:=h',toks:=tk }) :
  wpAny (model prog w) A (call (.ref 203) [x,y]) Q E s:=by
 have X:=S.base.frag
 have hno:=S.base.noThird
 obtain ⟨hp,g,dr,tk,os⟩:=s
 dsimp only at X S hno h ra rb
 have h203:=X 203 _ rfl
 have h180:=X 180 _ rfl
 have Lc:Looks (model prog w) hp (specialOf (.ref 203) (Str.ofString "__call__")) (some (.builtin "type.__call__")):=looks_specialIn X (by kernel_rfl)
 have typ:Looks (model prog w) hp (isInstance (.ref 203) (.type "type")) true:=looks_instIn X (by kernel_rfl)
 refine wpAny_call (codeAny_of_tree ?_)
 show wpAny _ _ (callAny (.ref 203) _) _ _ _
 refine nd_load h203 ?_
 show wpAny _ _ (callAny.viaDunder (.ref 203) _) _ _ _
 unfold callAny.viaDunder
 refine wpAny_bind (Lc.at ?_)
 dsimp only
 rw [tc_bind]
 refine wpAny_bind (wpAny_pure (wpAny_bind (wpAny_pure ?_)))
 refine wpAny_pure (a:=PySem.Fin.again (.call (.builtin "type.__call__") ⟨.ref 203 :: [x,y],[]⟩)) (And.intro rfl ?_)
 refine codeAny_call_builtin_at (Code.quiet_builtin _ (by decide +kernel)) entry_typeCall (@check_slot (model prog w) _ _ _ "type.__call__" "type" "__call__" (.ref 203) [x,y] [] _ tc_kind tc_split typ (tc_args _ _ _) ?_)
 have Lm:Looks (model prog w) hp (Bind.madeBy (.ref 203)) none:=looks_madeK X
 have Kg:wpAny (model prog w) (A.under (.builtin "type.__call__" ⟨[.ref 203,x,y],[]⟩)) (getAttr (.ref 203) (Str.ofString "__new__")) (fun v s'=>v=.ref 130∧s'=⟨hp,g,dr,tk + 1,os⟩) (fun _ _=>False) ⟨hp,g,dr,tk,os⟩:=by
  refine clsK_get X hno (by kernel_rfl) (g:=.builtin "staticmethod.__get__") (a:=.ref 181) (obj:=.none) (tp:=.ref 203) (by kernel_rfl) ?_
  refine wpAny_call (sm_get X (f:=.ref 130) (rest:=[]) (by rfl) ?_)
  exact wpAny_pure ⟨rfl,rfl⟩
 unfold Builtin.«type.__call__»
 have hm:Looks (model prog w) hp (mroOf (.ref 203)) [.ref 203,.ref 180,.type "tuple",.type "object"]:=by
  have e:clsIn (fragK w) 203=some ((clsIn (fragK w) 203).get!):=by kernel_rfl
  exact (looks_clsIn X e).andThen (Looks.of_pure (by kernel_rfl))
 repeat first | (with_reducible refine wpAny_mono Kg ?_ (fun _ _ z=>z.elim)) | lk
 rintro v s' ⟨rfl,rfl⟩
 have KN:wpAny (model prog w) (A.under (.builtin "type.__call__" ⟨[.ref 203,x,y],[]⟩)) (call (.ref 130) [.ref 203,x,y]) (fun v s'=>∃ h' tk' μ',s'=⟨h',g,dr,tk',os⟩∧Step ad.tabs [] μ hp μ' h'∧Sim w ad μ' (st++[.pair a b]) h'∧RV cPair μ' h' (.ref st.length) v) (fun _ _=>False) ⟨hp,g,dr,tk + 1,os⟩ :=
  TC.pairNew (r:=r) P _ _ _ μ _ _ (hA.weaken.weaken:AOk (r + 2) A).tcall S (.cons (.lit _) (.cons ra (.cons rb .nil))) fun mv h' tk' μ' T S' rv=>⟨h',tk',μ',rfl,T,S',rv⟩
 repeat first | (with_reducible refine wpAny_mono KN ?_ (fun _ _ z=>z.elim)) | lk
 rintro v s' ⟨h1,tk1,μ1,rfl,T,S1,rv⟩
 refine rv.ref_ fun _ _ hm=>?_
 rename_i q d
 have hs:(st++[MObj.pair a b])[st.length]?=some (.pair a b):=by exact at0
 refine S1.pairOn hs hm fun u v j dn hg hd ru rv=>?_
 have X1:=S1.base.frag
 have h203:=X1 203 _ rfl
 have L0:Looks (model prog w) h1 (typeOf (.ref q)) (.ref 203):=(Looks.ld hg).andThen .now
 have L1:Looks (model prog w) h1 (isInstance (.ref q) (.ref 203)) true:=L0.andThen (looks_subIn X1 (by kernel_rfl))
 have L1o:Looks (model prog w) h1 (isInstance (.ref q) (.type "object")) true:=L0.andThen (looks_subIn X1 (by kernel_rfl))
 have L2:Looks (model prog w) h1 (specialOf (.ref q) (Str.ofString "__init__")) (some (.builtin "object.__init__")):=L0.andThen (looks_findIn X1 (by kernel_rfl))
 have L3:Looks (model prog w) h1 (bindSpecial (.builtin "object.__init__") (.ref q)) (.builtin "object.__init__",[.ref q]):=Looks.of_pure (oi_bind _)
 have L4:Looks (model prog w) h1 (typeLookup (.ref 203) (Str.ofString "__init__")) (some (.builtin "object.__init__")):=looks_findIn X1 (by kernel_rfl)
 have L5:Looks (model prog w) h1 (Bind.madeBy (.ref 203)) none:=looks_madeK X1
 have KI:wpAny (model prog w) (A.under (.builtin "type.__call__" ⟨[.ref 203,x,y],[]⟩)) (call (.builtin "object.__init__") ([.ref q]++[x,y])) (fun v s'=>v=.none∧s'=⟨h1,g,dr,tk1,os⟩) (fun _ _=>False) ⟨h1,g,dr,tk1,os⟩:=by
  refine wpAny_call (codeAny_call_builtin oi_plain entry_oi (@check_slot (model prog w) _ _ _ "object.__init__" "object" "__init__" (.ref q) [x,y] [] _ oi_kind oi_split L1o (by unfold argsOk;kernel_rfl) ?_))
  unfold Builtin.«object.__init__»
  repeat lk
  exact ⟨rfl,rfl⟩
 unfold callSpecial?
 repeat first | (with_reducible refine wpAny_mono KI ?_ (fun _ _ z=>z.elim)) | lk
 rintro v s' ⟨rfl,rfl⟩
 repeat lk
 exact h _ h1 tk1 μ1 T S1 (.ref hm)
theorem TO.pair {a b:V} (P:Plain ad):TO w ad (r + 4) st (fun xs=>PySem.call (.ref 203) xs) [a,b] (.ref st.length) (st++[.pair a b]):=by
 intro A E s μ xs Q hA S hx k
 refine hx.e2 fun _ _ hx hy=>?_
 exact pair_call P hA S hx hy k
structure Names (ad:Adr):Prop where
 plain:Plain ad
 hide:NoHide ad
 len:ad.mg "len"=none
 chr:ad.mg "chr"=none
 ord:ad.mg "ord"=none
 range:ad.mg "range"=none
 map:ad.mg "map"=none
 str:ad.mg "str"=none
 tyerr:ad.mg "TypeError"=none
 pair:ad.mg "Pair"=some (.ref 203)
 fdd:ad.mg "FreezableDefaultDict"=some (.ref 108)
 node:FnAt ad "_law_node" 29 ad.node
theorem TO.fddNode (N:Names ad):TO w ad r st (fun xs=>PySem.call (.ref 108) xs) [.lit (.ref ad.node)] (.ref st.length) (st++[.fdd true [] none]):=by
 intro A E s μ xs Q hA S hx k
 refine hx.e1 fun _ hx=>?_
 obtain rfl:=hx.litE
 refine xAA N.node fun _ hat r'1=>?_;refine xEEEEA r'1 fun o pm cd c ho r'2=>?_;refine xA r'2 fun hcls _=>?_
 exact fdd_call S (S.base.get hat ho) hcls (by unfold FacIs;rw [if_pos rfl]) k
noncomputable abbrev newNode (st:St):St:=((st++[.list []])++[.fdd true [] none])++[.pair (.ref st.length) (.ref (st.length + 1))]
theorem TC.node (N:Names ad):TC w ad (r + 5) ad.node st [] (.ref (st.length + 2)) (newNode st):=by
 refine TC.def (ps:=[]) N.node ?b (by decide) rfl ?k (by decide) ?m
 case b =>
  intro pm cd
  exact len0 rfl
 case k=>intro x hx;exact memnil hx
 case m =>
  intro pm cd L
  have T1:TE w ad (r + 4) (frameEnv 29 "_law_node" pm cd L ad.node) [] st (.List [] { line:=168,col:=16,endLine:=168,endCol:=18 }) (.ref st.length) (st++[.list []]):=TE.list TL.nil (by decide)
  refine TR.ret (TE.call (TE.nameG N.pair rfl) (Keeps1.of (by kernel_rfl)) (TL.cons (ns rfl) (TE.list TL.nil (by decide)) (TL.cons (ns rfl) (TE.call (TE.nameG N.fdd rfl) (Keeps1.of (by kernel_rfl)) (TL.cons (ns rfl) (TE.nameG N.node.1 rfl) TL.nil) (TO.fddNode N)) TL.nil)) ?_)
  have z:=TO.pair (r:=r) (w:=w) (ad:=ad) (st:=(st++[.list []])++[.fdd true [] none]) (a:=.ref st.length) (b:=.ref (st++[MObj.list []]).length) N.plain
  simpa [newNode] using z
theorem store_frozen {A:Around} {E:Value→Shared→Prop} {s:Shared} {Q:Value→Shared→Prop} {x d fl:Addr} {ens:Array DictEntry} {k dn:Nat} {fac:Value} {tk:Tok} (X:(fragK w).In s.heap) (hg:s.heap.get? x=some (fddOf d ens k fac)) (hd:s.heap.get? d=some { cls:=.type "dict",data:=.dict #[] dn })
  (h:∀ h' t,Heap.SameBut d s.heap h'→h'.get? d=some { cls:=.type "dict",data:=.dict #[⟨PyData.keyHash w.params ("_frozen":Str),.str ("_frozen":Str) t,.ref fl⟩] (dn + 1) }→Q .none { s with heap:=h',toks:=s.toks + 1 }) :
  wpAny (model prog w) A (call (.builtin "object.__setattr__") [.ref x,.str ("_frozen":Str) tk,.ref fl]) Q E s:=by
 have I:=fddInst hg hd
 have SF:=PySem.F.store_object
 have sub:Looks (model prog w) s.heap (isInstance (.ref x) (.type "object")) true:=I.type.andThen (looks_subIn X (by kernel_rfl))
 refine wpAny_call (codeAny_call_builtin SF.slot.plain SF.entry (@check_slot (model prog w) _ _ s "object.__setattr__" "object" "__setattr__" (.ref x) [.str ("_frozen":Str) tk,.ref fl] [] _ SF.kind SF.split sub (SF.args (.ref x) (.str ("_frozen":Str) tk) (.ref fl)) ?_))
 obtain ⟨hp,g,dr,tks,os⟩:=s
 have L0:=I.type (M:=model prog w)
 dsimp only at X hg hd h L0
 have hm:Looks (model prog w) hp (mroOf (.ref 108)) [.ref 108,.type "collections.defaultdict",.type "dict",.type "object"]:=by
  have e:clsIn (fragK w) 108=some ((clsIn (fragK w) 108).get!):=by kernel_rfl
  exact (looks_clsIn X e).andThen (Looks.of_pure (by kernel_rfl))
 have c1:Looks (model prog w) hp (classOwn (.type "collections.defaultdict") (Str.ofString "__setattr__")) none:=Looks.of_pure (by kernel_rfl)
 have c2:Looks (model prog w) hp (classOwn (.type "dict") (Str.ofString "__setattr__")) none:=Looks.of_pure (by kernel_rfl)
 have c3:Looks (model prog w) hp (classOwn (.type "object") (Str.ofString "__setattr__")) (some (.builtin "object.__setattr__")):=Looks.of_pure (by kernel_rfl)
 have L4:Looks (model prog w) hp (typeLookup (.ref 108) (Str.ofString "_frozen")) none:=looks_findIn X (by kernel_rfl)
 have h108:=X 108 _ rfl
 unfold Builtin.«object.__setattr__» refuseIfOverridden
 repeat lk
 have hd2:(hp.update d (Obj.putName ("_frozen":Str) (PyData.keyHash w.params ("_frozen":Str)) (.str ("_frozen":Str) tks) (.ref fl))).get? d=some { cls:=.type "dict",data:=.dict #[⟨PyData.keyHash w.params ("_frozen":Str),.str ("_frozen":Str) tks,.ref fl⟩] (dn + 1) }:=Heap.get?_update_self _ hd (by rfl)
 have C:Heap.SameBut d hp (hp.update d (Obj.putName ("_frozen":Str) (PyData.keyHash w.params ("_frozen":Str)) (.str ("_frozen":Str) tks) (.ref fl))):=Heap.SameBut.update ..
 refine wpAny_updatePart (f:=Obj.putName ("_frozen":Str) (PyData.keyHash w.params ("_frozen":Str)) (.str ("_frozen":Str) tks) (.ref fl)) hd ?_
 refine wpAny_bind (wpAny_lookBehind hd2 (pastItsLine_dict (by show 1≤sizeLine + 1;decide)) ?_)
 exact wpAny_pure (h _ _ C hd2)
theorem set_frozen {A:Around} {E:Value→Shared→Prop} {s:Shared} {Q:Unit→Shared→Prop} {x d fl:Addr} {ens:Array DictEntry} {k dn:Nat} {fac:Value} (X:(fragK w).In s.heap) (hg:s.heap.get? x=some (fddOf d ens k fac)) (hd:s.heap.get? d=some { cls:=.type "dict",data:=.dict #[] dn })
  (h:∀ h' t tk,Heap.SameBut d s.heap h'→h'.get? d=some { cls:=.type "dict",data:=.dict #[⟨PyData.keyHash w.params ("_frozen":Str),.str ("_frozen":Str) t,.ref fl⟩] (dn + 1) }→Q () { s with heap:=h',toks:=tk }) :
  wpAny (model prog w) A (setAttr (.ref x) ("_frozen":Str) (.ref fl)) Q E s:=by
 have I:=fddInst hg hd
 have L1:Looks (model prog w) s.heap (specialOf (.ref x) "__setattr__") (some (.builtin "object.__setattr__")):=I.type.andThen (looks_findIn X (by kernel_rfl))
 have SF:=PySem.F.store_object
 unfold setAttr callSpecial?
 refine wpAny_bind (wpAny_mkText (wpAny_bind (wpAny_bind (Looks.here (s:={ s with toks:=s.toks + 1 }) L1 (wpAny_holding ?_)))))
 rw [SF.slot.bind]
 refine wpAny_bind (wpAny_pure (wpAny_bind (store_frozen (s:={ s with toks:=s.toks + 1 }) X hg hd fun h' t C e=>wpAny_pure ?_)))
 exact wpAny_pure (h h' t _ C e)
end Mine
namespace Mine
open PySem PySem.W PySem.Calls PyProof.Rows
variable {w : World} {ad : Adr} {r : Nat} {st st₁ st₂ st₃ : St} {env : Env} {loc loc₁ loc₂ loc₃ : Loc}
/-! targets -/
noncomputable def TT (w:World) (ad:Adr) (r:Nat) (env:Env) (target:Expr) (v:V) (bs:Loc):Prop :=
 ∀ (A:Around) (E:Value→Shared→Prop) (s:Shared) (μ:Mu) (st:St) (loc:Loc) (mv:Value) (Q:Unit→Shared→Prop),AOk r A→Sim w ad μ st s.heap→Frame ad μ s.heap env loc→RV cPair μ s.heap v mv →
  (∀ h' tk,Step ad.tabs (own env) μ s.heap μ h'→Sim w ad μ st h'→Frame ad μ h' env (bs++loc)→Q () { s with heap:=h',toks:=tk })→wpAny (model prog w) A (assign target env mv) Q E s
theorem TT.name {x:Str} {pos:Pos} {v:V} (hk:env.kindOf x=some .local∨env.kindOf x=some .cell) (hc:env.kindOf x=some .cell→(env.cells.lookup x).isSome=true∧env.func.isSome=true):TT w ad r env (.Name x pos) v [(x,v)]:=by
 intro A E s μ st loc mv Q hA S F rv h
 exact wpAny_assign_Name (store hk hc S F rv fun h' tk T S' F'=>h h' tk T S' F')
theorem Step.extBut {tabs:List Addr} {μ:Mu} {h h':Heap} (hs:h.objs.size≤h'.objs.size) (C:Heap.ExtBut h.objs.size h h'):Step tabs [] μ h μ h' :=
 .grow hs fun b o e=>C b o (Nat.ne_of_lt (Heap.lt_size e)) e
theorem TT.tup2 {t₁ t₂:Expr} {k:Nat} {pos:Pos} {a b:V} {bs₁ bs₂:Loc} (T₁:TT w ad r env t₁ a bs₁) (T₂:TT w ad r env t₂ b bs₂)
  (he:assignEach [t₁,t₂] env=[(false,assign t₁ env),(false,assign t₂ env)]:=by rfl):TT w ad r env (.Tuple [t₁,t₂] k pos) (.tup2 a b) (bs₂++bs₁):=by
 intro A E s μ st loc mv Q hA S F rv h
 refine rv.tup2_ fun _ _ _ _ e ra rb=>?_
 rename_i ta x y n
 rw [arm_assign_Tuple]
 refine wpAny_bind (wpAny_standAt ?_)
 unfold unpack
 rw [he]
 refine wpAny_bind (wpAny_holding (wpAny_sized (wpAny_unpackItems_tuple (items:=#[x,y]) hA.handled ⟨_,e,rfl,n,rfl⟩ fun h1 C1 hz=>?_)))
 have S1:=S.grow hz fun b o e=>C1 b o (Nat.ne_of_lt (Heap.lt_size e)) e
 have T1:Step ad.tabs [] μ s.heap μ h1:=.extBut hz C1
 have F1:=F.up S T1
 show wpAny _ _ (do holding [y] (assign t₁ env x);assignInOrder [assign t₂ env] [y]) _ _ _
 refine wpAny_bind (wpAny_holding (T₁ A E _ μ st loc x _ hA S1 F1 (ra.up S T1 Loose.nil) fun h2 tk2 t2 S2 F2=>?_))
 show wpAny _ _ (do holding [] (assign t₂ env y);assignInOrder [] []) _ _ _
 refine wpAny_bind (wpAny_holding (T₂ A E _ μ st _ y _ hA S2 F2 ((rb.up S T1 Loose.nil).up S1 t2 F1.loose) fun h3 tk3 t3 S3 F3=>?_))
 refine wpAny_pure (h h3 tk3 ((T1.wide.trans0 t2).trans0 t3) S3 ?_)
 rw [List.append_assoc];exact F3
theorem TT.tup4 {t₁ t₂ t₃ t₄:Expr} {k:Nat} {pos:Pos} {a b c d:V} {bs₁ bs₂ bs₃ bs₄:Loc} (T₁:TT w ad r env t₁ a bs₁) (T₂:TT w ad r env t₂ b bs₂) (T₃:TT w ad r env t₃ c bs₃) (T₄:TT w ad r env t₄ d bs₄)
  (he:assignEach [t₁,t₂,t₃,t₄] env=[(false,assign t₁ env),(false,assign t₂ env),(false,assign t₃ env),(false,assign t₄ env)]:=by rfl):TT w ad r env (.Tuple [t₁,t₂,t₃,t₄] k pos) (.tup4 a b c d) (bs₄++(bs₃++(bs₂++bs₁))):=by
 intro A E s μ st loc mv Q hA S F rv h
 refine rv.tup4_ fun _ _ _ _ _ _ e ra rb rc rd=>?_
 rename_i ta x y z u n
 rw [arm_assign_Tuple]
 refine wpAny_bind (wpAny_standAt ?_)
 unfold unpack
 rw [he]
 refine wpAny_bind (wpAny_holding (wpAny_sized (wpAny_unpackItems_tuple (items:=#[x,y,z,u]) hA.handled ⟨_,e,rfl,n,rfl⟩ fun h1 C1 hz=>?_)))
 have S1:=S.grow hz fun b o e=>C1 b o (Nat.ne_of_lt (Heap.lt_size e)) e
 have T1:Step ad.tabs [] μ s.heap μ h1:=.extBut hz C1
 have F1:=F.up S T1
 show wpAny _ _ (do holding [y,z,u] (assign t₁ env x);assignInOrder [assign t₂ env,assign t₃ env,assign t₄ env] [y,z,u]) _ _ _
 refine wpAny_bind (wpAny_holding (T₁ A E _ μ st loc x _ hA S1 F1 (ra.up S T1 Loose.nil) fun h2 tk2 t2 S2 F2=>?_))
 show wpAny _ _ (do holding [z,u] (assign t₂ env y);assignInOrder [assign t₃ env,assign t₄ env] [z,u]) _ _ _
 refine wpAny_bind (wpAny_holding (T₂ A E _ μ st _ y _ hA S2 F2 ((rb.up S T1 Loose.nil).up S1 t2 F1.loose) fun h3 tk3 t3 S3 F3=>?_))
 show wpAny _ _ (do holding [u] (assign t₃ env z);assignInOrder [assign t₄ env] [u]) _ _ _
 refine wpAny_bind (wpAny_holding (T₃ A E _ μ st _ z _ hA S3 F3 (((rc.up S T1 Loose.nil).up S1 t2 F1.loose).up S2 t3 F2.loose) fun h4 tk4 t4 S4 F4=>?_))
 show wpAny _ _ (do holding [] (assign t₄ env u);assignInOrder [] []) _ _ _
 refine wpAny_bind (wpAny_holding (T₄ A E _ μ st _ u _ hA S4 F4 ((((rd.up S T1 Loose.nil).up S1 t2 F1.loose).up S2 t3 F2.loose).up S3 t4 F3.loose) fun h5 tk5 t5 S5 F5=>?_))
 refine wpAny_pure (h h5 tk5 ((((T1.wide.trans0 t2).trans0 t3).trans0 t4).trans0 t5) S5 ?_)
 simpa only [List.append_assoc] using F5
/-! walks -/
structure Wk (w:World) (ad:Adr) (b:Bool) (vals:List V) (Ok:St→Prop) (I:Addr) (At:Nat→Mu→Heap→Prop) (Mid:Nat→Value→Mu→Heap→Prop):Prop where
 up:∀ i μ more h h',At i μ h→(∀ o,h.get? I=some o→h'.get? I=some o)→At i (μ++more) h'
 loose:∀ i μ h,At i μ h→Loose h [I]
 item:∀ i v (A:Around) (E:Value→Shared→Prop) (s:Shared) (μ:Mu) (st:St) (Q:Option Value→Shared→Prop),A.handled=none→vals[i]?=some v→Sim w ad μ st s.heap→Ok st→At i μ s.heap→I∉muts μ→ad.n0≤I →
  (∀ mv h' tk,Heap.ExtBut I s.heap h'→s.heap.objs.size≤h'.objs.size→Mid (i + 1) mv μ h'→RV cPair μ h' v mv→Q (some mv) { s with heap:=h',toks:=tk })→wpAny (model prog w) A (pyNext (.ref I)) Q E s
 done:∀ (A:Around) (E:Value→Shared→Prop) (s:Shared) (μ:Mu) (st:St) (Q:Option Value→Shared→Prop),A.handled=none→Sim w ad μ st s.heap→Ok st→At vals.length μ s.heap→I∉muts μ →
  (∀ h' tk,Heap.ExtBut I s.heap h'→s.heap.objs.size≤h'.objs.size→Q none { s with heap:=h',toks:=tk })→wpAny (model prog w) A (pyNext (.ref I)) Q E s
 go:∀ elts k pos (A:Around) (E:Value→Shared→Prop) (s:Shared) (μ:Mu) (i:Nat) (mv:Value) (Q:Unit→Shared→Prop),Mid i mv μ s.heap→(∀ h',Heap.ExtBut I s.heap h'→s.heap.objs.size≤h'.objs.size→At i μ h'→Q () { s with heap:=h' })→wpAny (model prog w) A (letOwnedTupleGo (.Tuple elts k pos) (.ref I) mv) Q E s
 midLoose:∀ i mv μ h,Mid i mv μ h→Loose h [I]
 nd:∀ i μ h o,At i μ h→h.get? I=some o→∀ es n,o.data≠.dict es n
 named:b=true→∀ i mv μ h,Mid i mv μ h→At i μ h
 self:∀ (A:Around) (E:Value→Shared→Prop) (s:Shared) (μ:Mu) (i:Nat) (Q:Value→Shared→Prop),At i μ s.heap→Q (.ref I) s→wpAny (model prog w) A (pyIter (.ref I)) Q E s
theorem Wk.list {n:Nat} {l:List V} {a d I:Addr}:Wk w ad true l (fun st=>st[n]?=some (.list l)) I (fun i μ h=>μ[n]?=some (a,d)∧h.IsListIter I a i) (fun i _ μ h=>μ[n]?=some (a,d)∧h.IsListIter I a i) where
 up:=fun i μ more h h' ⟨e,o,ho,q⟩ k=>⟨by rw [List.getElem?_append_left (List.getElem?_eq_some_iff.mp e).1];exact e,o,k _ ho,q⟩
 loose:=fun i μ h ⟨_,o,ho,hc,_⟩ b hb o' e=>by
  rw [List.mem_singleton.mp hb,ho] at e;obtain rfl:=Option.some.inj e
  exact notFixed hc (by decide)
 item:=fun i v A E s μ st Q hh hv S ok ⟨hm,hit⟩ hI hn k=>by
  refine S.listOn ok hm fun mvs hL hvs=>?_
  refine xEA (hvs.get i hv) fun mv e rv=>?_
  refine wpAny_pyNext_list_item hit hL (by simpa using e) fun h' hit' C=>?_
  refine k mv h' s.toks C.extBut (by rw [C.1];exact Nat.le_refl _) ⟨hm,hit'⟩ ?_
  have T:Step ad.tabs [I] μ s.heap μ h':=.same C
  refine rv.up S T fun b hb o' e=>?_
  refine xEAA hit fun o ho hc _=>?_
  rw [List.mem_singleton.mp hb,ho] at e;obtain rfl:=Option.some.inj e
  exact notFixed hc (by decide)
 done:=fun A E s μ st Q hh S ok ⟨hm,hit⟩ hI k=>by
  refine S.listOn ok hm fun mvs hL hvs=>?_
  have hsz:mvs.size=l.length:=by have:=hvs.length;simpa using this.symm
  refine wpAny_sized (wpAny_pyNext_list_end hh hit hL (by simp [hsz]) fun h' C hz=>?_)
  exact k h' s.toks C hz
 go:=fun elts k pos A E s μ i mv Q ⟨hm,hit⟩ hQ=>by
  have hQ:=hQ s.heap (fun _ _ _ e=>e) (Nat.le_refl _) ⟨hm,hit⟩
  cases mv with
  | ref T=>exact wpAny_letOwnedTupleGo_listiter hit hQ
  | _=>exact wpAny_of_eq (by rfl) hQ
 midLoose:=fun i mv μ h ⟨_,o,ho,hc,_⟩ b hb o' e=>by
  rw [List.mem_singleton.mp hb,ho] at e;obtain rfl:=Option.some.inj e
  exact notFixed hc (by decide)
 nd:=fun i μ h o' ⟨_,o,ho,hc,hd⟩ e es n q=>by
  rw [ho] at e;obtain rfl:=Option.some.inj e
  rw [hd] at q;cases q
 named:=fun _ _ _ _ _ x=>x
 self:=fun A E s μ i Q ⟨_,hit⟩ hQ=>wpAny_pyIter_listiter hit hQ
inductive LoopR (turn:V→Loc→St→Option V→Loc→St→Prop) (Ok:St→Prop):List V→Loc→St→Option V→Loc→St→Prop
 | nil {loc:Loc} {st:St}:Ok st→LoopR turn Ok [] loc st none loc st
 | cons {v:V} {vs:List V} {loc:Loc} {st:St} {loc₁:Loc} {st₁:St} {fl:Option V} {loc₂:Loc} {st₂:St}:Ok st→turn v loc st none loc₁ st₁→LoopR turn Ok vs loc₁ st₁ fl loc₂ st₂→LoopR turn Ok (v :: vs) loc st fl loc₂ st₂
 | stop {v:V} {vs:List V} {loc:Loc} {st:St} {u:V} {loc₁:Loc} {st₁:St}:Ok st→turn v loc st (some u) loc₁ st₁→LoopR turn Ok (v :: vs) loc st (some u) loc₁ st₁
noncomputable def TI (w:World) (ad:Adr) (st:St) (v:V) (vals:List V) (Ok:St→Prop) (b:Bool:=true):Prop :=
 ∀ (A:Around) (E:Value→Shared→Prop) (s:Shared) (μ:Mu) (mv:Value) (Q:Value→Shared→Prop),A.handled=none→Sim w ad μ st s.heap→RV cPair μ s.heap v mv →
  (∀ I h' tk At Mid,Step ad.tabs [] μ s.heap μ h'→Sim w ad μ st h'→Wk w ad b vals Ok I At Mid→At 0 μ h'→s.heap.objs.size≤I→I < h'.objs.size→Q (.ref I) { s with heap:=h',toks:=tk })→wpAny (model prog w) A (pyIter mv) Q E s
noncomputable def TX (w:World) (ad:Adr) (r:Nat) (env:Env) (loc:Loc) (st:St) (iter:Expr) (vals:List V) (Ok:St→Prop) (st₁:St) (b:Bool:=true):Prop :=
 ∀ (A:Around) (E:Value→Shared→Prop) (s:Shared) (μ:Mu) (Q:Value→Shared→Prop),AOk r A→Sim w ad μ st s.heap→Frame ad μ s.heap env loc →
  (∀ I h' tk μ' At Mid,Step ad.tabs [] μ s.heap μ' h'→Sim w ad μ' st₁ h'→Wk w ad b vals Ok I At Mid→At 0 μ' h'→s.heap.objs.size≤I→I∉muts μ'→I < h'.objs.size→Q (.ref I) { s with heap:=h',toks:=tk }) →
  wpAny (model prog w) A (eval iter env) (fun x s₁=>wpAny (model prog w) A (pyIter x) Q E s₁) E s
theorem TX.of {b:Bool} {iter:Expr} {v:V} {vals:List V} {Ok:St→Prop} (Ti:TE w ad r env loc st iter v st₁) (Hi:TI w ad st₁ v vals Ok b):TX w ad r env loc st iter vals Ok st₁ b:=by
 intro A E s μ Q hA S F h
 refine Ti A E s μ _ hA S F fun mv h₁ tk₁ μ₁ t₁ S₁ F₁ r₁=>?_
 refine Hi A E _ μ₁ mv _ hA.handled S₁ r₁ fun I h₂ tk₂ At Mid t₂ S₂ W a0 hI hI2=>?_
 exact h I h₂ tk₂ μ₁ At Mid (t₁.trans0 t₂) S₂ W a0 (Nat.le_trans t₁.size hI) (fun q=>absurd (muts_lt S₁ q) (Nat.not_lt.mpr hI)) hI2
theorem TI.list {n:Nat} {l:List V} (hs:st[n]?=some (.list l)):TI w ad st (.ref n) l (fun st=>st[n]?=some (.list l)):=by
 intro A E s μ mv Q hh S rv k
 refine rv.ref_ fun _ _ hm=>?_
 refine S.listOn hs hm fun mvs hL hvs=>?_
 refine wpAny_pyIter_list hL ?_
 exact k s.heap.objs.size _ s.toks _ _ (.push _) (S.push _) Wk.list ⟨hm,_,Heap.get?_push_size _ rfl,rfl,rfl⟩ (Nat.le_refl _) (by rw [Heap.size_push];exact Nat.lt_succ_self _)
noncomputable def FlQ (K:Shared→Prop) (R:Result→Shared→Prop) (f:Flow) (s:Shared):Prop:=match f with
 | .next | .cont=>K s
 | .brk=>R (.ok .next) s
 | .ret v=>R (.ok (.ret v)) s
noncomputable def TurnQ (prog:Program) (w:World) (A:Around) (target:Expr) (it:Value) (env:Env) (X:(Flow→Shared→Prop)→Shared→Prop) (K:Shared→Prop) (R:Result→Shared→Prop) (r:Option Value) (s:Shared):Prop:=match r with
 | none=>R (.ok .next) s
 | some v=>wpAny (model prog w) A (letOwnedTupleGo target it v) (fun _ s₁=>wpAny (model prog w) A (PySem.assign target env v) (fun _ s₂=>X (FlQ K R) s₂) (fun _ _=>False) s₁) (fun _ _=>False) s
section
variable {prog:Program} {A:Around} {R:Result→Shared→Prop} {s:Shared}
theorem forLoop1 {target:Expr} {it:Value} {body:List Stmt} {env:Env}
  (h:wpAny (model prog w) A (pyNext it) (TurnQ prog w A target it env (fun P s=>wpAny (model prog w) A (execs body env) P (fun _ _=>False) s) (codeAny (model prog w) A (.forLoop target it body [] env) R) R) (fun _ _=>False) s) :
  codeAny (model prog w) A (.forLoop target it body [] env) R s:=by
 refine codeAny_of_tree ?_
 show wpAny _ _ ((forTurn target it body [] env).onRaise (fun x=>do noteFrame x env;theTreesLotGoes x)) _ _ s
 refine wpAny_noted ?_
 unfold forTurn
 refine wpAny_bind (wpAny_standAt (wpAny_bind (wpAny_onRaise (wpAny_mono h (fun r s₁ h₁=>?_) fun _ _ h'=>h'.elim))))
 cases r with
 | none=>exact wpAny_pure ⟨rfl,codeAny_block (wpAny_execs_nil h₁)⟩
 | some v =>
  refine wpAny_bind (wpAny_mono h₁ (fun _ s₁ h₁=>wpAny_bind (wpAny_mono h₁ (fun _ s₂ h₂=>wpAny_bind (wpAny_mono h₂ (fun f s₃ h₃=>?_) fun _ _ h'=>h'.elim)) fun _ _ h'=>h'.elim)) fun _ _ h'=>h'.elim)
  cases f with
  | next=>exact wpAny_pure ⟨rfl,h₃⟩
  | cont=>exact wpAny_pure ⟨rfl,h₃⟩
  | brk=>exact wpAny_pure h₃
  | ret v=>exact wpAny_pure h₃
end
noncomputable def Turn (w:World) (ad:Adr) (r:Nat) (env:Env) (target:Expr) (body:List Stmt) (v:V) (loc:Loc) (st:St) (fl:Option V) (loc':Loc) (st':St):Prop :=
 ∃ bs,TT w ad r env target v bs∧TS w ad r env (bs++loc) st body fl loc' st'
theorem Frame.but {μ:Mu} {h h':Heap} {I:Addr} (F:Frame ad μ h env loc) (S:Sim w ad μ st h) (hz:h.objs.size≤h'.objs.size) (C:Heap.ExtBut I h h') (hI:I≠env.locals∧∀ x c,(x,c)∈env.cells→c≠I) (lI:Loose h [I]):Frame ad μ h' env loc:=by
 have T:Step ad.tabs [I] μ h μ h':=.but hz C
 have cellk:∀ x c,(x,c)∈env.cells→∀ cv,h.IsCell c cv→h'.IsCell c cv:=fun x c hm cv ⟨o,ho,hd⟩=>⟨o,C c o (hI.2 x c hm) ho,hd⟩
 refine ⟨F.fn,F.gl,F.bl,?_,fun x v e k=>?_,fun x c hm=>?_,F.apart,F.off⟩
 ·refine xEA F.ns fun m z'1 hv=>?_;refine xEEEA z'1 fun o es ep ho q=>?_
  refine ⟨m,⟨o,es,ep,C _ o (Ne.symm hI.1) ho,q⟩,fun x v e k=>?_⟩
  refine xEA (hv x v e k) fun mv e1 rv=>?_
  exact ⟨mv,e1,rv.up S T lI⟩
 ·refine xEEAA (F.cell x v e k) fun c mv e1 e2 rv=>?_
  exact ⟨c,mv,e1,cellk x c (mem_lookup e1) _ e2,rv.up S T lI⟩
 ·refine xA (F.cells x c hm) fun z'1 q=>?_;refine xE z'1 fun cv e=>?_
  exact ⟨⟨cv,cellk x c hm cv e⟩,q⟩
theorem Step.one {tabs X:List Addr} {I:Addr} {μ μ':Mu} {h h':Heap} (T:Step tabs [I] μ h μ' h'):Step tabs (I :: X) μ h μ' h':=T.weaken fun b hb=>.inl (by rw [List.mem_singleton.mp hb];exact .head _)
theorem Step.tl {tabs X:List Addr} {I:Addr} {μ μ':Mu} {h h':Heap} (T:Step tabs X μ h μ' h'):Step tabs (I :: X) μ h μ' h':=T.weaken fun _ hb=>.inl (.tail _ hb)
theorem Step.off {tabs X:List Addr} {I:Addr} {μ μ':Mu} {h h':Heap} (T:Step tabs (I :: X) μ h μ' h') (hI:h.objs.size≤I):Step tabs X μ h μ' h':=T.weaken fun b hb=>by
 rcases List.mem_cons.mp hb with rfl | hb
 ·exact .inr hI
 ·exact .inl hb
structure Off (ad:Adr) (env:Env) (I:Addr):Prop where
 n0:ad.n0≤I
 tabs:I∉ad.tabs
 own:I∉own env
 cells:∀ x c,(x,c)∈env.cells→c≠I
theorem Off.lc {I:Addr} (O:Off ad env I):I≠env.locals∧∀ x c,(x,c)∈env.cells→c≠I:=⟨fun e=>O.own (by rw [e];exact .head _),O.cells⟩
theorem Off.of {μ:Mu} {h:Heap} {I:Addr} (S:Sim w ad μ st h) (F:Frame ad μ h env loc) (hI:h.objs.size≤I):Off ad env I:=by
 have hn0:ad.n0≤I:=Nat.le_trans S.base.size hI
 have hc:∀ x c,(x,c)∈env.cells→c≠I:=fun x c hm e=>by
  refine xA (F.cells x c hm) fun z'1 _=>?_;refine xEEA z'1 fun cv o ho _=>?_
  exact absurd (e ▸ Heap.lt_size ho) (Nat.not_lt.mpr hI)
 refine ⟨hn0,fun q=>absurd (S.base.tabs _ q).1 (Nat.not_lt.mpr hn0),fun q=>?_,hc⟩
 rcases own_mem q with e | ⟨x,hm⟩
 ·refine xEA F.ns fun m hm _=>?_
  exact absurd hm.lt (Nat.not_lt.mpr (e ▸ hI))
 ·exact hc x I hm rfl
structure WAt (w:World) (ad:Adr) (X:List Addr) (env:Env) (I:Addr) (P:Nat→Mu→Heap→Prop) (μ₀:Mu) (h₀:Heap) (i:Nat) (loc:Loc) (st:St) (μ:Mu) (h:Heap):Prop where
 T:Step ad.tabs X μ₀ h₀ μ h
 S:Sim w ad μ st h
 F:Frame ad μ h env loc
 a:P i μ h
 m:I∉muts μ
 z:I < h.objs.size
theorem drop_some {α:Type} {l vs:List α} {v:α} {i:Nat} (e:l.drop i=v :: vs):l[i]?=some v∧l.drop (i + 1)=vs:=by
 refine ⟨by rw [← List.head?_drop,e];rfl,by rw [← List.tail_drop,e];rfl⟩
section
variable {b:Bool} {target:Expr} {vals:List V} {Ok:St→Prop} {I:Addr} {P:Nat→Mu→Heap→Prop} {Mid:Nat→Value→Mu→Heap→Prop} {A:Around} {s:Shared} {μ₀:Mu} {h₀:Heap}
 {X:(Flow→Shared→Prop)→Shared→Prop} {K:Shared→Prop} {R:Result→Shared→Prop} {Bd:Loc→St→Option V→Loc→St→Prop} {Tu:V→Loc→St→Option V→Loc→St→Prop}
noncomputable def Body (w:World) (ad:Adr) (env:Env) (I:Addr) (s:Shared) (μ₀:Mu) (h₀:Heap) (X:(Flow→Shared→Prop)→Shared→Prop) (Bd:Loc→St→Option V→Loc→St→Prop):Prop :=
 ∀ loc st fl loc' st' μ h tk Q,Bd loc st fl loc' st'→Step ad.tabs (I :: own env) μ₀ h₀ μ h→Sim w ad μ st h→Frame ad μ h env loc →
  (∀ f h' tk' μ',Step ad.tabs (own env) μ h μ' h'→Sim w ad μ' st' h'→Frame ad μ' h' env loc'→FlR μ' h' fl f→Q f { s with heap:=h',toks:=tk' })→X Q { s with heap:=h,toks:=tk }
theorem loop_turn {i:Nat} {v:V} {fl:Option V} {μ:Mu} {h:Heap} {tk:Nat} (step:∀ s,wpAny (model prog w) A (pyNext (.ref I)) (TurnQ prog w A target (.ref I) env X K R) (fun _ _=>False) s→K s)
  (W:Wk w ad b vals Ok I P Mid) (hA:AOk r A) (O:Off ad env I) (hgo:(b=true∧∃ x p,target=.Name x p)∨∃ e k p,target=.Tuple e k p) (hB:Body w ad env I s μ₀ h₀ X Bd)
  (TU:∃ bs,TT w ad r env target v bs∧Bd (bs++loc) st fl loc₁ st₁) (hv:vals[i]?=some v) (ok:Ok st) (J:WAt w ad (I :: own env) env I P μ₀ h₀ i loc st μ h)
  (fin:∀ f h' tk' μ',WAt w ad (I :: own env) env I P μ₀ h₀ (i + 1) loc₁ st₁ μ' h'→FlR μ' h' fl f→FlQ K R f { s with heap:=h',toks:=tk' }):K { s with heap:=h,toks:=tk }:=by
 refine xEA TU fun bs TTt TSb=>?_
 refine step _ (W.item i v A _ _ μ st _ hA.handled hv J.S ok J.a J.m O.n0 fun mv h1 tk1 C hz a1 rv=>?_)
 have lI:=W.loose i μ h J.a
 have S1:=J.S.but hz C O.n0 J.m lI
 have F1:=J.F.but J.S hz C O.lc lI
 have key:∀ h1':Heap,Heap.ExtBut I h1 h1'→h1.objs.size≤h1'.objs.size→P (i + 1) μ h1'→wpAny (model prog w) A (PySem.assign target env mv) (fun _ s₂=>X (FlQ K R) s₂) (fun _ _=>False) { s with heap:=h1',toks:=tk1 }:=by
  intro h1' C' hz' a1'
  have lM:=W.midLoose _ _ _ _ a1
  have S1':=S1.but hz' C' O.n0 J.m lM
  refine TTt A _ _ μ st loc mv _ hA S1' (F1.but S1 hz' C' O.lc lM) (rv.up S1 (.but hz' C') lM) fun h2 tk2 T2 S2 F2=>?_
  have T02:=(J.T.trans0 (Step.one (.but hz C))).trans0 ((Step.one (.but hz' C')).trans0 T2.tl)
  refine hB _ _ _ _ _ _ _ _ _ TSb T02 S2 F2 fun f h3 tk3 μ3 T3 S3 F3 fr=>?_
  have T23:=T2.trans0 T3
  refine xEA (id T23.ext) fun more q'1 _=>?_;subst q'1
  have z:=Nat.lt_of_lt_of_le (Nat.lt_of_lt_of_le J.z hz) hz'
  exact fin f h3 tk3 _ ⟨T02.trans0 T3.tl,S3,F3,W.up _ μ more h1' h3 a1' fun o e=>(T23.keep I o e O.own J.m O.tabs).exact (W.nd _ _ _ o a1' e),T23.out z J.m,Nat.lt_of_lt_of_le z T23.size⟩ fr
 rcases hgo with ⟨hb,x,p,rfl⟩ | ⟨e,k,p,rfl⟩
 ·exact wpAny_of_eq (a:=()) (by rfl) (key h1 (fun _ _ _ e=>e) (Nat.le_refl _) (W.named hb _ _ _ _ a1))
 ·exact W.go e k p A _ _ μ (i + 1) mv _ a1 key
theorem loop_run {vs:List V} {fl:Option V} (step:∀ s,wpAny (model prog w) A (pyNext (.ref I)) (TurnQ prog w A target (.ref I) env X K R) (fun _ _=>False) s→K s)
  (W:Wk w ad b vals Ok I P Mid) (hA:AOk r A) (O:Off ad env I) (hgo:(b=true∧∃ x p,target=.Name x p)∨∃ e k p,target=.Tuple e k p) (hB:Body w ad env I s μ₀ h₀ X Bd)
  (L:LoopR (fun v loc st fl loc' st'=>∃ bs,TT w ad r env target v bs∧Bd (bs++loc) st fl loc' st') Ok vs loc st fl loc₂ st₂) :
  ∀ {i:Nat} {μ:Mu} {h:Heap} {tk:Nat},i≤vals.length→vals.drop i=vs→WAt w ad (I :: own env) env I P μ₀ h₀ i loc st μ h →
  (∀ f h' tk' μ',Step ad.tabs (I :: own env) μ₀ h₀ μ' h'→Sim w ad μ' st₂ h'→Frame ad μ' h' env loc₂→FlR μ' h' fl f→R (.ok f) { s with heap:=h',toks:=tk' })→K { s with heap:=h,toks:=tk }:=by
 induction L with
 | nil ok =>
  intro i μ h tk hi hd J fin
  obtain rfl:=Nat.le_antisymm hi (List.drop_eq_nil_iff.mp hd)
  refine step _ (W.done A _ _ μ _ _ hA.handled J.S ok J.a J.m fun h' tk C hz=>?_)
  have lI:=W.loose _ μ h J.a
  exact fin .next h' tk μ (J.T.trans0 (Step.one (.but hz C))) (J.S.but hz C O.n0 J.m lI) (J.F.but J.S hz C O.lc lI) rfl
 | cons ok TU rest ih =>
  intro i μ h tk hi hd J fin
  refine xA (drop_some hd) fun hv hd=>?_
  refine loop_turn step W hA O hgo hB TU hv ok J fun f h' tk μ' J' fr=>?_
  obtain rfl:f=.next:=fr
  exact ih (List.getElem?_eq_some_iff.mp hv).1 hd J' fin
 | stop ok TU =>
  intro i μ h tk hi hd J fin
  refine xA (drop_some hd) fun hv hd=>?_
  refine loop_turn step W hA O hgo hB TU hv ok J fun f h' tk μ' J' fr=>?_
  refine xEA fr fun mv' q'1 rv'=>?_;try clear fr;subst q'1
  exact fin _ h' tk μ' J'.T J'.S J'.F ⟨mv',rfl,rv'⟩
end
theorem TS1.for {b:Bool} {target iter:Expr} {body:List Stmt} {pos:Pos} {vals:List V} {Ok:St→Prop} {fl:Option V} (Tx:TX w ad r env loc st iter vals Ok st₁ b)
  (L:LoopR (Turn w ad r env target body) Ok vals loc st₁ fl loc₂ st₂) (hgo:(b=true∧∃ x p,target=.Name x p)∨∃ e k p,target=.Tuple e k p)
  (hs:∀ x,foldedSetIterable iter env x=pure x:=by intro _;rfl):TS1 w ad r env loc st (.For target iter body [] pos) fl loc₂ st₂:=by
 intro A E s μ Q hA S F h
 refine wpAny_For (Tx A E s μ _ hA S F fun I h₂ tk₂ μ₁ At Mid t₂ S₂ W a0 hI0 hIm hI2=>?_) hs
 exact loop_run (s:=s) (μ₀:=μ) (h₀:=s.heap) (Bd:=fun loc st fl loc' st'=>TS w ad r env loc st body fl loc' st') (fun _=>forLoop1) W hA (.of S F hI0) hgo (fun _ _ _ _ _ μ h tk _ B T S F k=>B A _ _ μ _ hA S F k) L (Nat.zero_le _) rfl
  ⟨t₂.wide,S₂,F.up S t₂,a0,hIm,hI2⟩ fun f h' tk μ' T S F fr=>h f h' tk μ' (T.off hI0) S F fr
theorem Frame.sub {μ:Mu} {h:Heap} (F:Frame ad μ h env loc) (hs:∀ x v,loc₁.lookup x=some v→loc.lookup x=some v):Frame ad μ h env loc₁:=by
 refine ⟨F.fn,F.gl,F.bl,?_,fun x v e k=>F.cell x v (hs x v e) k,F.cells,F.apart,F.off⟩
 refine xEA F.ns fun m hm hv=>?_
 exact ⟨m,hm,fun x v e k=>hv x v (hs x v e) k⟩
theorem TS.sub {ss:List Stmt} {fl:Option V} (T:TS w ad r env loc st ss fl loc₁ st₁) (hs:∀ x v,loc₂.lookup x=some v→loc₁.lookup x=some v):TS w ad r env loc st ss fl loc₂ st₁:=by
 intro A E s μ Q hA S F h
 exact T A E s μ Q hA S F fun f h' tk μ' t S' F' fr=>h f h' tk μ' t S' (F'.sub hs) fr
section
variable {prog:Program} {A:Around} {R:Result→Shared→Prop} {s:Shared}
noncomputable def CompQ (prog:Program) (w:World) (A:Around) (acc:Value) (elt:Expr) (env:Env) (K:Shared→Prop) (b:Bool) (s:Shared):Prop:=match b with
 | true=>wpAny (model prog w) A (eval elt env) (fun x s₄=>wpAny (model prog w) A (call (.builtin "list.append") [acc,x]) (fun _ s₅=>K s₅) (fun _ _=>False) s₄) (fun _ _=>False) s
 | false=>K s
noncomputable def CompT (prog:Program) (w:World) (A:Around) (target:Expr) (ifs:List Expr) (it acc:Value) (elt:Expr) (env:Env) (K:Shared→Prop) (R:Result→Shared→Prop) (r:Option Value) (s:Shared):Prop:=match r with
 | none=>R (.ok .next) s
 | some v=>wpAny (model prog w) A (letOwnedTupleGo target it v) (fun _ s₁=>wpAny (model prog w) A (PySem.assign target env v) (fun _ s₂ =>
   wpAny (model prog w) A (forIn ifs true fun c r=>if r=true then do let ok ← isTrue c env (eval c env);pure (ForInStep.yield ok) else pure (ForInStep.yield r)) (CompQ prog w A acc elt env K) (fun _ _=>False) s₂) (fun _ _=>False) s₁) (fun _ _=>False) s
theorem compLoop1 {elt target iter:Expr} {ifs:List Expr} {scope:Scope} {pos:Pos} {it acc:Value} {env:Env}
  (h:wpAny (model prog w) A (pyNext it) (CompT prog w A target ifs it acc elt env (codeAny (model prog w) A (.compLoop (.ListComp elt [⟨target,iter,ifs,0⟩] scope pos) 0 it acc env) R) R) (fun _ _=>False) s) :
  codeAny (model prog w) A (.compLoop (.ListComp elt [⟨target,iter,ifs,0⟩] scope pos) 0 it acc env) R s:=by
 refine codeAny_of_tree ?_
 show wpAny _ A ((compTurn (.ListComp elt [⟨target,iter,ifs,0⟩] scope pos) 0 it acc env).onRaise (fun x=>do noteFrame x env;theTreesLotGoes x)) _ _ s
 refine wpAny_noted ?_
 rw [compTurn_list]
 refine wpAny_bind (wpAny_standAt (wpAny_bind (wpAny_mono h (fun r s₁ h₁=>?_) fun _ _ h'=>h'.elim)))
 cases r with
 | none=>exact wpAny_pure h₁
 | some v =>
  refine wpAny_bind (wpAny_mono h₁ (fun _ s₁ h₁=>?_) fun _ _ h'=>h'.elim)
  refine wpAny_bind (wpAny_mono h₁ (fun _ s₂ h₂=>wpAny_bind (wpAny_mono h₂ (fun ok s₃ h₃=>?_) fun _ _ h'=>h'.elim)) fun _ _ h'=>h'.elim)
  cases ok with
  | false=>exact wpAny_pure ⟨rfl,h₃⟩
  | true =>
   exact wpAny_bind (wpAny_bind (wpAny_mono h₃ (fun x s₄ h₄=>wpAny_bind (wpAny_mono h₄ (fun _ s₅ h₅=>wpAny_pure (wpAny_pure ⟨rfl,h₅⟩)) fun _ _ h'=>h'.elim)) fun _ _ h'=>h'.elim))
end
noncomputable def TF (w:World) (ad:Adr) (r:Nat) (env:Env) (loc:Loc) (st:St) (ifs:List Expr) (b:Bool) (st':St):Prop :=
 TB w ad r env loc st (forIn ifs true fun c r=>if r=true then do let ok ← isTrue c env (eval c env);pure (ForInStep.yield ok) else pure (ForInStep.yield r)) b st'
theorem TF.nil:TF w ad r env loc st [] true st:=by
 intro A E s μ Q hA S F h
 exact wpAny_tests_nil (h s.heap s.toks μ .refl S F)
theorem TF.one {c:Expr} {b:Bool} (T:TB w ad r env loc st (isTrue c env (eval c env)) b st₁):TF w ad r env loc st [c] b st₁:=by
 intro A E s μ Q hA S F h
 exact wpAny_tests_one (T A E s μ _ hA S F h)
noncomputable def CTurn (w:World) (ad:Adr) (r:Nat) (env:Env) (capt:Loc) (target:Expr) (ifs:List Expr) (elt:Expr) (v:V) (st:St) (u:Option V) (st':St):Prop :=
 ∃ bs st₁,TT w ad r env target v bs∧(∀ x y,capt.lookup x=some y→bs.lookup x=none)∧TF w ad r env (bs++capt) st ifs u.isSome st₁ ∧
  match u with
  | some u=>TE w ad r env (bs++capt) st₁ elt u st'
  | none=>st'=st₁
inductive CompR (turn:V→St→Option V→St→Prop) (Ok:St→Prop):List V→St→List V→St→Prop
 | nil {st:St}:Ok st→CompR turn Ok [] st [] st
 | take {v:V} {vs:List V} {st st₁ st₂:St} {u:V} {us:List V}:Ok st→turn v st (some u) st₁→CompR turn Ok vs st₁ us st₂→CompR turn Ok (v :: vs) st (u :: us) st₂
 | skip {v:V} {vs:List V} {st st₁ st₂:St} {us:List V}:Ok st→turn v st none st₁→CompR turn Ok vs st₁ us st₂→CompR turn Ok (v :: vs) st us st₂
theorem lookup_append_none {β:Type}:∀ {l m:List (Str × β)} {x:Str},l.lookup x=none→(l++m).lookup x=m.lookup x
 | [],_,_,_=>rfl
 | (y,d) :: l,m,x,e=>by
  rw [List.cons_append,List.lookup_cons]
  rw [List.lookup_cons] at e
  cases hb:x == y with
  | true=>rw [hb] at e;exact somen e
  | false=>rw [hb] at e;exact lookup_append_none e
theorem append_off {A:Around} {E:Value→Shared→Prop} {s:Shared} {D:Addr} {ys:Array Value} {x:Value} {Q:Value→Shared→Prop} (hl:s.heap.PlainList D ys) (hsz:ys.size≤sizeLine)
  (h:∀ h',h'.PlainList D (ys.push x)→Heap.SameBut D s.heap h'→Q .none { s with heap:=h' }):wpAny (model prog w) A (call (.builtin "list.append") [.ref D,x]) Q E s :=
 wpAny_list_append_plain (hsz:=hsz) hl h
end Mine
namespace Mine
open PySem PySem.W PySem.Calls PyProof.Rows
variable {w : World} {ad : Adr} {r : Nat} {st st₁ st₂ st₃ : St} {env : Env} {loc loc₁ loc₂ loc₃ capt : Loc}
theorem plain_loose {h:Heap} {D:Addr} {ys:Array Value} (p:h.PlainList D ys):Loose h [D]:=fun b hb o e=>by
 refine xE p fun n q=>?_
 rw [List.mem_singleton.mp hb,q] at e;obtain rfl:=Option.some.inj e
 exact notFixed rfl (by decide)
theorem plain_nd {h:Heap} {D:Addr} {ys:Array Value} (p:h.PlainList D ys) {o:Obj} (e:h.get? D=some o):∀ es n,o.data≠.dict es n:=fun es n q=>by
 refine xE p fun k hk=>?_
 rw [hk] at e;obtain rfl:=Option.some.inj e
 cases q
structure CAt (w:World) (ad:Adr) (env:Env) (I D:Addr) (P:Nat→Mu→Heap→Prop) (μ₀:Mu) (h₀:Heap) (us:List V) (i:Nat) (loc:Loc) (st:St) (μ:Mu) (h:Heap) (ys:Array Value):Prop extends WAt w ad (I :: D :: own env) env I P μ₀ h₀ i loc st μ h where
 L:h.PlainList D ys
 d:D∉muts μ
 r:All2 (RV cPair μ h) us ys.toList
section
variable {elt target iter:Expr} {ifs:List Expr} {scope:Scope} {pos:Pos} {cenv:Env} {vals us:List V} {Ok:St→Prop} {b:Bool} {I D:Addr} {P:Nat→Mu→Heap→Prop} {Mid:Nat→Value→Mu→Heap→Prop} {A:Around} {s:Shared} {R:Result→Shared→Prop} {μ μ₀:Mu} {h₀:Heap} {capt:Loc}
theorem comp_turn {us₀:List V} {ys:Array Value} {i:Nat} {v:V} {u:Option V} {h:Heap} {tk:Nat} {K:Shared→Prop} (W:Wk w ad b vals Ok I P Mid) (hA:AOk r A) (hgo:(b=true∧∃ x p,target=.Name x p)∨∃ e k p,target=.Tuple e k p)
  (O:Off ad cenv I) (OD:Off ad cenv D) (hDI:D≠I) (TU:CTurn w ad r cenv capt target ifs elt v st u st₁) (hv:vals[i]?=some v) (ok:Ok st) (J:CAt w ad cenv I D P μ₀ h₀ us₀ i capt st μ h ys)
  (step:∀ s,wpAny (model prog w) A (pyNext (.ref I)) (CompT prog w A target ifs (.ref I) (.ref D) elt cenv K R) (fun _ _=>False) s→K s)
  (fin:∀ bs st₃ h' tk' μ',CAt w ad cenv I D P μ₀ h₀ us₀ (i + 1) (bs++capt) st₃ μ' h' ys→(∀ x y,capt.lookup x=some y→bs.lookup x=none) →
   (match u with | some u=>TE w ad r cenv (bs++capt) st₃ elt u st₁ | none=>st₁=st₃)→CompQ prog w A (.ref D) elt cenv K u.isSome { s with heap:=h',toks:=tk' }):K { s with heap:=h,toks:=tk }:=by
 refine xEEAAA TU fun bs st₃ TTt hdis tf he=>?_
 refine step _ (W.item i v A _ _ μ st _ hA.handled hv J.S ok J.a J.m O.n0 fun mv h1 tk1 C hz a1 rv=>?_)
 have lI:=W.loose i μ h J.a
 have S1:=J.S.but hz C O.n0 J.m lI
 have F1:=J.F.but J.S hz C O.lc lI
 have key:∀ h1':Heap,Heap.ExtBut I h1 h1'→h1.objs.size≤h1'.objs.size→P (i + 1) μ h1'→wpAny (model prog w) A (PySem.assign target cenv mv) (fun _ s₂ =>
   wpAny (model prog w) A (forIn ifs true fun c r=>if r=true then do let ok ← isTrue c cenv (eval c cenv);pure (ForInStep.yield ok) else pure (ForInStep.yield r)) (CompQ prog w A (.ref D) elt cenv K) (fun _ _=>False) s₂) (fun _ _=>False) { s with heap:=h1',toks:=tk1 }:=by
  intro h1' C' hz' a1'
  have lM:=W.midLoose _ _ _ _ a1
  have S1':=S1.but hz' C' O.n0 J.m lM
  have F1':=F1.but S1 hz' C' O.lc lM
  have D1:h1'.PlainList D ys:=(J.L.at fun o e=>C D o hDI e).at fun o e=>C' D o hDI e
  refine TTt A _ _ μ st capt mv _ hA S1' F1' (rv.up S1 (.but hz' C') lM) fun h2 tk2 T2 S2 F2=>?_
  refine tf A _ _ μ _ hA S2 F2 fun h3 tk3 μ3 T3 S3 F3=>?_
  have T23:=T2.trans0 T3.wide
  refine xEA (id T23.ext) fun more q'1 _=>?_;subst q'1
  have z:=Nat.lt_of_lt_of_le (Nat.lt_of_lt_of_le J.z hz) hz'
  exact fin bs st₃ h3 tk3 _ ⟨⟨(J.T.trans0 (Step.one (.but hz C))).trans0 ((Step.one (.but hz' C')).trans0 T23.tl.tl),S3,F3,W.up _ μ more h1' h3 a1' fun o e=>(T23.keep I o e O.own J.m O.tabs).exact (W.nd _ _ _ o a1' e),T23.out z J.m,Nat.lt_of_lt_of_le z T23.size⟩,
   D1.at fun o e=>(T23.keep D o e OD.own J.d OD.tabs).exact (plain_nd D1 e),T23.out (by refine xE D1 fun n q=>?_;exact Heap.lt_size q) J.d,
   J.r.imp fun a b q=>(((q.up J.S (.but hz C) lI).up S1 (.but hz' C') lM).up S1' T2 F1'.loose).up S2 T3 Loose.nil⟩ hdis he
 rcases hgo with ⟨hb,x,p,rfl⟩ | ⟨e,k,p,rfl⟩
 ·exact wpAny_of_eq (a:=()) (by rfl) (key h1 (fun _ _ _ e=>e) (Nat.le_refl _) (W.named hb _ _ _ _ a1))
 ·exact W.go e k p A _ _ μ (i + 1) mv _ a1 key
theorem comp_loop {vs:List V} (W:Wk w ad b vals Ok I P Mid) (hA:AOk r A) (hgo:(b=true∧∃ x p,target=.Name x p)∨∃ e k p,target=.Tuple e k p)
  (O:Off ad cenv I) (OD:Off ad cenv D) (hDI:D≠I) (hsz:vals.length≤sizeLine) (L:CompR (CTurn w ad r cenv capt target ifs elt) Ok vs st us st₂) :
  ∀ {us₀:List V} {i:Nat} {μ:Mu} {h:Heap} {tk:Nat} {ys:Array Value},i≤vals.length→us₀.length≤i→vals.drop i=vs→CAt w ad cenv I D P μ₀ h₀ us₀ i capt st μ h ys →
  (∀ h' tk μ' ys,Step ad.tabs (I :: D :: own cenv) μ₀ h₀ μ' h'→Sim w ad μ' st₂ h'→Frame ad μ' h' cenv capt→h'.PlainList D ys→All2 (RV cPair μ' h') (us₀++us) ys.toList→D∉muts μ'→R (.ok .next) { s with heap:=h',toks:=tk }) →
  codeAny (model prog w) A (.compLoop (.ListComp elt [⟨target,iter,ifs,0⟩] scope pos) 0 (.ref I) (.ref D) cenv) R { s with heap:=h,toks:=tk }:=by
 induction L with
 | nil ok =>
  intro us₀ i μ h tk ys hi hl hd J fin
  obtain rfl:=Nat.le_antisymm hi (List.drop_eq_nil_iff.mp hd)
  refine compLoop1 (W.done A _ _ μ _ _ hA.handled J.S ok J.a J.m fun h' tk C hz=>?_)
  have lI:=W.loose _ μ h J.a
  exact fin h' tk μ ys (J.T.trans0 (Step.one (.but hz C))) (J.S.but hz C O.n0 J.m lI) (J.F.but J.S hz C O.lc lI) (J.L.at fun o e=>C D o hDI e) (by rw [List.append_nil];exact J.r.imp fun a b q=>q.up J.S (.but hz C) lI) J.d
 | @take _ _ _ _ _ u us ok TU rest ih =>
  intro us₀ i μ h tk ys hi hl hd J fin
  refine xA (drop_some hd) fun hv hd=>?_
  refine comp_turn (R:=R) W hA hgo O OD hDI TU hv ok J (fun _=>compLoop1) fun bs st₃ h3 tk3 μ3 J3 hdis he=>?_
  refine he A _ _ μ3 _ hA J3.S J3.F fun mv4 h4 tk4 μ4 T4 S4 F4 r4=>?_
  refine xEA (id T4.ext) fun more q'1 _=>?_;subst q'1
  have D4:h4.PlainList D ys:=J3.L.at fun o e=>(T4.keep D o e (fun q=>nomatch q) J3.d OD.tabs).exact (plain_nd J3.L e)
  have dm4:D∉muts (μ3++more):=T4.out (by refine xE J3.L fun n q=>?_;exact Heap.lt_size q) J3.d
  have hi1:i + 1≤vals.length:=(List.getElem?_eq_some_iff.mp hv).1
  refine append_off D4 (by rw [← Array.length_toList,← J3.r.length];exact Nat.le_trans hl (Nat.le_trans hi hsz)) fun h5 D5 C5=>?_
  have l4:=plain_loose D4
  refine ih (us₀:=us₀++[u]) hi1 (by rw [List.length_append];exact Nat.succ_le_succ hl) hd ⟨⟨(J3.T.trans0 T4.wide).trans0 (Step.tl (Step.one (.same C5))),S4.same C5 OD.n0 dm4 l4,
   (F4.but S4 (by rw [C5.1];exact Nat.le_refl _) C5.extBut OD.lc l4).sub fun x v e=>(lookup_append_none (hdis x v e)).trans e,
   W.up _ μ3 more h3 h5 J3.a (fun o e=>C5.extBut I o (Ne.symm hDI) ((T4.keep I o e (fun q=>nomatch q) J3.m O.tabs).exact (W.nd _ _ _ o J3.a e))),T4.out J3.z J3.m,by rw [C5.1];exact Nat.lt_of_lt_of_le J3.z T4.size⟩,
   D5,dm4,?_⟩ fun h' tk μ' ys T S F L Y m=>fin h' tk μ' ys T S F L (by rw [List.append_assoc] at Y;exact Y) m
  rw [Array.toList_push]
  exact (J3.r.imp fun a b q=>(q.up J3.S T4 Loose.nil).up S4 (.same C5) l4).append (.cons (r4.up S4 (.same C5) l4) .nil)
 | skip ok TU rest ih =>
  intro us₀ i μ h tk ys hi hl hd J fin
  refine xA (drop_some hd) fun hv hd=>?_
  refine comp_turn (R:=R) W hA hgo O OD hDI TU hv ok J (fun _=>compLoop1) fun bs st₃ h3 tk3 μ3 J3 hdis he=>?_
  obtain rfl:=he
  exact ih (List.getElem?_eq_some_iff.mp hv).1 (Nat.le_succ_of_le hl) hd { J3 with F:=J3.F.sub fun x v e=>(lookup_append_none (hdis x v e)).trans e } fin
end
theorem Sim.adopt {μ:Mu} {h:Heap} (S:Sim w ad μ st h) {D:Addr} {ys:Array Value} {us:List V} (hD:h.PlainList D ys) (hm:D∉muts μ) (h0:ad.n0≤D) (hv:All2 (RV cPair μ h) us ys.toList):Sim w ad (μ++[(D,D)]) (st++[.list us]) h:=by
 have more:∀ {v mv},RV cPair μ h v mv→RV cPair (μ++[(D,D)]) h v mv:=fun q=>by
  induction q with
  | none=>exact .none
  | bool b=>exact .bool b
  | int i t=>exact .int i t
  | str x t=>exact .str x t
  | lit v=>exact .lit v
  | tup2 e _ _ ia ib=>exact .tup2 e ia ib
  | tup4 e _ _ _ _ ia ib ic id=>exact .tup4 e ia ib ic id
  | ref e=>exact .ref (by rw [List.getElem?_append_left (List.getElem?_eq_some_iff.mp e).1];exact e)
 have orel:∀ {p o},ORel w ad μ h p o→ORel w ad (μ++[(D,D)]) h p o:=fun {p o} R=>by
  have at_:∀ {k:Nat} {q:Addr × Addr},μ[k]?=some q→(μ++[(D,D)])[k]?=some q:=fun e=>by rw [List.getElem?_append_left (List.getElem?_eq_some_iff.mp e).1];exact e
  cases o with
  | list l=>refine xAEEA R fun e2 mvs k hg hv=>?_;exact ⟨e2,mvs,k,hg,hv.imp fun a b q=>more q⟩
  | fdd nodes es fr =>
   refine xAEEEAAAAEEA R fun e1 ens k fac hg he hn hf dn des hd hz=>?_
   refine ⟨e1,ens,k,fac,hg,he.imp fun a b q=>⟨q.1,more q.2⟩,hn,hf,dn,des,hd,?_⟩
   cases fr with
   | none=>exact hz
   | some k =>
    refine xEEEE hz fun t fl o pm r'1=>?_;refine xEEEEA r'1 fun c u y ct e1 r'2=>?_;refine xA r'2 fun e2 e3=>?_
    exact ⟨t,fl,o,pm,c,u,y,ct,e1,at_ e2,e3⟩
  | pair a b=>refine xAEEEEAAA R fun e1 x y k dn hg hd ra rb=>?_;exact ⟨e1,x,y,k,dn,hg,hd,more ra,more rb⟩
  | cel n=>refine xAEA R fun e2 q hq hg=>?_;exact ⟨e2,q,at_ hq,hg⟩
 have split:∀ k (x:Addr × Addr),(μ++[(D,D)])[k]?=some x→(k < μ.length∧μ[k]?=some x)∨(k=μ.length∧x=(D,D)):=fun k x e=>by
  by_cases hl:k < μ.length
  ·rw [List.getElem?_append_left hl] at e;exact .inl ⟨hl,e⟩
  ·have:k=μ.length:=by have:=(List.getElem?_eq_some_iff.mp e).1;simp at this;omega
   subst this
   rw [List.getElem?_append_right (Nat.le_refl _)] at e
   simp at e;exact .inr ⟨rfl,e.symm⟩
 have off:∀ {k:Nat} {q:Addr × Addr},μ[k]?=some q→q.1≠D∧q.2≠D:=fun {k q} e=>⟨fun z=>hm (mem_muts.mpr ⟨k,q,e,.inl z.symm⟩),fun z=>hm (mem_muts.mpr ⟨k,q,e,.inr z.symm⟩)⟩
 refine ⟨S.base,by simp [S.len],fun n q ob hn ho=>?_,fun a ha=>?_,fun i j q u hq hu hij=>?_⟩
 ·rcases split n q hn with ⟨hl,e⟩ | ⟨rfl,rfl⟩
  ·rw [List.getElem?_append_left (S.len ▸ hl)] at ho
   exact orel (S.obj n q ob e ho)
  ·rw [S.len,List.getElem?_append_right (Nat.le_refl _)] at ho
   simp at ho
   subst ho
   refine xE hD fun k e=>?_
   exact ⟨rfl,ys,k,e,hv.imp fun a b q=>more q⟩
 ·rcases mem_muts_append.mp ha with ha | ha
  ·exact S.high a ha
  ·simp [muts] at ha;subst ha;exact h0
 ·rcases split i q hq with ⟨li,ei⟩ | ⟨li,ei⟩ <;> rcases split j u hu with ⟨lj,ej⟩ | ⟨lj,ej⟩
  ·exact S.apart i j q u ei ej hij
  ·subst ej;have:=off ei;exact ⟨this.1,this.1,this.2,this.2⟩
  ·subst ei;have:=off ej;exact ⟨Ne.symm this.1,Ne.symm this.2,Ne.symm this.1,Ne.symm this.2⟩
  ·exact absurd (li.trans lj.symm) hij
theorem Step.take {tabs X:List Addr} {μ μ':Mu} {h h':Heap} (T:Step tabs X μ h μ' h') {D:Addr} (hD:h.objs.size≤D):Step tabs X μ h (μ'++[(D,D)]) h':=by
 refine xEA T.ext fun more q'1 hmore=>?_;subst q'1
 refine ⟨⟨more++[(D,D)],by rw [List.append_assoc],fun p hp=>?_⟩,T.size,T.keep⟩
 rcases List.mem_append.mp hp with hp | hp
 ·exact hmore p hp
 ·rw [List.mem_singleton.mp hp];exact ⟨hD,hD⟩
theorem comp_core {b:Bool} {elt target iter:Expr} {ifs:List Expr} {scope:Scope} {pos:Pos} {vals us:List V} {Ok:St→Prop} (cl:List (Str × Addr)) (Tx:TX w ad r env loc st iter vals Ok st₁ b)
  (L:∀ C,CompR (CTurn w ad r (compEnvC scope cl C env) capt target ifs elt) Ok vals st₁ us st₂) (hgo:(b=true∧∃ x p,target=.Name x p)∨∃ e k p,target=.Tuple e k p)
  (hclos:closureFor scope env=pure cl) (hcell:∀ y∈scope.names,y.2≠.cell) (hkind:scope.kind=.function) (hnames:∀ x∈scope.names,x.2=.local→scope.names.lookup x.1=some .local)
  (hcl:∀ p∈cl,p∈env.cells) (hclp:cl.Pairwise fun x y=>x.2≠y.2)
  (hcapt:∀ x v,capt.lookup x=some v→loc.lookup x=some v∧(env.kindOf x=some .cell∨env.kindOf x=some .free)∧cl.lookup x=env.cells.lookup x∧(relabel scope env).names.lookup x≠some .local)
  (hsz:vals.length≤sizeLine) (hs:∀ x,foldedSetIterable iter env x=pure x:=by intro _;rfl) :
  ∀ (A:Around) (E:Value→Shared→Prop) (s:Shared) (μ:Mu) (use:Option (Value→Sem Unit)) (cpos:Pos) (Q:Value→Shared→Prop),AOk r A→Sim w ad μ st s.heap→Frame ad μ s.heap env loc →
  (∀ D C h' tk μ' ys,Step ad.tabs [] μ s.heap μ' h'→Sim w ad μ' st₂ h'→Frame ad μ' h' env loc→h'.PlainList D ys→All2 (RV cPair μ' h') us ys.toList→D∉muts μ'→s.heap.objs.size≤D→ad.n0≤D →
   (∃ m,h'.Ns C m)→C∉muts μ'→C∉ad.tabs→ad.n0≤C→s.heap.objs.size≤C→Loose h' [C]→D≠C→compPost (model prog w) A E use Q (.ref D) C (.ok .next) { s with heap:=h',toks:=tk }) →
  wpAny (model prog w) A (comprehension (.ListComp elt [⟨target,iter,ifs,0⟩] scope pos) scope env cpos (newList []) false (eval iter env) use) Q E s:=by
 intro A E s μ use cpos Q hA S F h
 refine wpAny_comprehension_free rfl hs hclos hkind hnames ?_
 refine Tx A E s μ _ hA S F fun I h₂ tk₂ μ₁ At Mid t₂ S₂ W a0 hI0 hIm hI2=>?_
 have F₂:=F.up S t₂
 refine wpAny_newObj_type (wpAny_newFunctionEnv hcell (by intro y hy;simp at hy) (fun h₄ hns₄ hsb₄=>?_) hkind)
 dsimp only at hns₄ hsb₄ ⊢
 have hD4:(h₂.push { cls:=.type "list",dict:=none,data:=.seq ([]:List Value).toArray }).get? h₂.objs.size=some (listOf #[] 0):=Heap.get?_push_size _ rfl
 have k3:∀ b o,h₂.get? b=some o→(h₂.push { cls:=.type "list",dict:=none,data:=.seq ([]:List Value).toArray }).get? b=some o:=fun b o e=>Heap.get?_push_of_some _ e
 have z3:(h₂.push { cls:=.type "list",dict:=none,data:=.seq ([]:List Value).toArray }).objs.size=h₂.objs.size + 1:=Heap.size_push ..
 generalize h₂.push { cls:=.type "list",dict:=none,data:=.seq ([]:List Value).toArray }=h₃ at hns₄ hsb₄ hD4 k3 z3 ⊢
 have k4:∀ b o,h₃.get? b=some o→h₄.get? b=some o:=fun b o e=>(hsb₄.2 b (Nat.ne_of_lt (Heap.lt_size e))).trans (Heap.get?_push_of_some _ e)
 have z4:h₄.objs.size=h₃.objs.size + 1:=by rw [hsb₄.1,Heap.size_push]
 have k24:∀ b o,h₂.get? b=some o→h₄.get? b=some o:=fun b o e=>k4 b o (k3 b o e)
 have z24:h₂.objs.size≤h₄.objs.size:=by omega
 have S₄:=S₂.grow z24 k24
 have t₄:Step ad.tabs [] μ₁ h₂ μ₁ h₄:=.grow z24 k24
 have F₄:=F₂.up S₂ t₄
 have fresh:∀ {a:Addr},h₂.objs.size≤a→a∉muts μ₁∧a∉ad.tabs∧ad.n0≤a∧(∀ x c,(x,c)∈env.cells→c≠a)∧a≠env.locals:=fun {a} ha=>by
  refine ⟨fun q=>absurd (muts_lt S₂ q) (Nat.not_lt.mpr ha),fun q=>absurd (S₂.base.tabs _ q).1 (Nat.not_lt.mpr (Nat.le_trans S₂.base.size ha)),Nat.le_trans S₂.base.size ha,fun x c hm e=>?_,fun e=>?_⟩
  ·refine xA (F₂.cells x c hm) fun z'1 _=>?_;refine xEEA z'1 fun cv o ho _=>?_
   subst e
   exact absurd (Heap.lt_size ho) (Nat.not_lt.mpr ha)
  ·refine xEA F₂.ns fun m hm _=>?_
   exact absurd hm.lt (Nat.not_lt.mpr (e ▸ ha))
 have fC:=fresh (a:=h₃.objs.size) (by omega)
 have fD:=fresh (a:=h₂.objs.size) (Nat.le_refl _)
 have FC:Frame ad μ₁ h₄ (compEnvC scope cl h₃.objs.size env) capt:=by
  refine ⟨hkind,F.gl,F.bl,⟨_,hns₄,fun x v e k=>?_⟩,fun x v e k=>?_,fun x c hm=>?_,hclp,fC.1,fC.2.1,fC.2.2.1⟩
  ·exact absurd k (hcapt x v e).2.2.2
  ·refine xAAA (hcapt x v e) fun e1 e2 e3 _=>?_
   refine xEEAA (F₄.cell x v e1 e2) fun c mv' e4 e5 rv=>?_
   exact ⟨c,mv',e3.trans e4,e5,rv⟩
  ·refine xAAAA (F₄.cells x c (hcl _ hm)) fun e1 a b _ _=>?_
   exact ⟨e1,a,b,fun q=>absurd q (by simp [compEnvC]),fC.2.2.2.1 x c (hcl _ hm)⟩
 have own_c:own (compEnvC scope cl h₃.objs.size env)=[h₃.objs.size]:=rfl
 have loop:codeAny (model prog w) A (.compLoop (.ListComp elt [⟨target,iter,ifs,0⟩] scope pos) 0 (.ref I) (.ref h₂.objs.size) (compEnvC scope cl h₃.objs.size env)) (compPost (model prog w) A E use Q (.ref h₂.objs.size) h₃.objs.size)
   {s with heap:=h₄,toks:=tk₂ + ([]:List (Str × Value)).length }:=by
  have hn0:ad.n0≤I:=Nat.le_trans S.base.size hI0
  have hD00:s.heap.objs.size≤h₂.objs.size:=t₂.size
  have hIt:I∉ad.tabs:=fun q=>absurd (S.base.tabs _ q).1 (Nat.not_lt.mpr hn0)
  have hIc:∀ x c,(x,c)∈env.cells→c≠I:=fun x c hm e=>by
   refine xA (F.cells x c hm) fun z'1 _=>?_;refine xEEA z'1 fun cv o ho _=>?_
   subst e
   exact absurd (Heap.lt_size ho) (Nat.not_lt.mpr hI0)
  refine comp_loop (s:=s) (h₀:=s.heap) (μ₀:=μ) W hA hgo ⟨hn0,hIt,?_,fun x c hm=>hIc x c (hcl _ hm)⟩ ⟨fD.2.2.1,fD.2.1,?_,fun x c hm=>fD.2.2.2.1 x c (hcl _ hm)⟩ (Nat.ne_of_gt hI2) hsz (L _) (us₀:=[]) (ys:=#[]) (Nat.zero_le _) (Nat.le_refl _) rfl
   ⟨⟨(t₂.trans0 t₄).wide,S₄,FC,?_,hIm,Nat.lt_of_lt_of_le hI2 z24⟩,⟨0,k4 _ _ hD4⟩,fD.1,.nil⟩ fun h' tk μ' ys T' S' F' D' y' dm'=>?_
  ·rw [own_c,List.mem_singleton];exact Nat.ne_of_lt (by rw [z3];exact Nat.lt_succ_of_lt hI2)
  ·rw [own_c,List.mem_singleton];exact Nat.ne_of_lt (by rw [z3];exact Nat.lt_succ_self _)
  ·simpa using W.up 0 μ₁ [] h₂ h₄ a0 (fun o e=>k24 _ o e)
  ·refine xEA F'.ns fun m' hm' _=>?_
   have lC:Loose h' [h₃.objs.size]:=fun b hb o e=>F'.loose b (by rw [List.mem_singleton.mp hb];exact .head _) o e
   have TT:Step ad.tabs [] μ s.heap μ' h':=T'.weaken fun b hb=>.inr (by
    rcases List.mem_cons.mp hb with rfl | hb
    ·exact hI0
    ·rcases List.mem_cons.mp hb with rfl | hb
     ·exact hD00
     ·rw [own_c] at hb
      rw [List.mem_singleton.mp hb,z3];exact Nat.le_succ_of_le hD00)
   exact h _ _ h' tk μ' ys TT S' (F.up S TT) D' y' dm' hD00 fD.2.2.1 ⟨m',hm'⟩ F'.off.1 F'.off.2.1 F'.off.2.2 (by rw [z3];exact Nat.le_succ_of_le hD00) lC (Nat.ne_of_lt (by rw [z3];exact Nat.lt_succ_self _))
 exact codeAny_compStart_list loop (W.self _ _ _ μ₁ 0 _ (by simpa using W.up 0 μ₁ [] h₂ h₄ a0 (fun o e=>k24 _ o e)) loop)
theorem TE.comp {b:Bool} {elt target iter:Expr} {ifs:List Expr} {scope:Scope} {pos:Pos} {vals us:List V} {Ok:St→Prop} (cl:List (Str × Addr)) (Tx:TX w ad r env loc st iter vals Ok st₁ b)
  (L:∀ C,CompR (CTurn w ad r (compEnvC scope cl C env) capt target ifs elt) Ok vals st₁ us st₂) (hgo:(b=true∧∃ x p,target=.Name x p)∨∃ e k p,target=.Tuple e k p)
  (hclos:closureFor scope env=pure cl) (hcell:∀ y∈scope.names,y.2≠.cell) (hkind:scope.kind=.function) (hnames:∀ x∈scope.names,x.2=.local→scope.names.lookup x.1=some .local)
  (hcl:∀ p∈cl,p∈env.cells) (hclp:cl.Pairwise fun x y=>x.2≠y.2)
  (hcapt:∀ x v,capt.lookup x=some v→loc.lookup x=some v∧(env.kindOf x=some .cell∨env.kindOf x=some .free)∧cl.lookup x=env.cells.lookup x∧(relabel scope env).names.lookup x≠some .local)
  (hsz:vals.length≤sizeLine) (hs:∀ x,foldedSetIterable iter env x=pure x:=by intro _;rfl) :
  TE w ad r env loc st (.ListComp elt [⟨target,iter,ifs,0⟩] scope pos) (.ref st₂.length) (st₂++[.list us]):=by
 intro A E s μ Q hA S F h
 rw [eval_ListComp]
 refine comp_core cl Tx L hgo hclos hcell hkind hnames hcl hclp hcapt hsz hs A E s μ none _ Q hA S F fun D C h' tk μ' ys T' S' F' D' y' dm' hD0 hDn hm hCm hCt hCn hC0 lC hDC=>?_
 refine xE hm fun m' hm'=>?_
 refine ⟨m',hm',fun h'' C''=>?_⟩
 have S'':=S'.same C'' hCn hCm lC
 have T'':Step ad.tabs [C] μ' h' μ' h'':=.same C''
 have D'':h''.PlainList D ys:=D'.at fun o e=>C''.extBut _ o hDC e
 have S3:=S''.adopt D'' dm' hDn (y'.imp fun a b q=>q.up S' T'' lC)
 have TT:Step ad.tabs [] μ s.heap μ' h'':=T'.trans T'' fun b hb=>.inr (by rw [List.mem_singleton.mp hb];exact hC0)
 have T3:=TT.take (D:=D) hD0
 exact h _ h'' tk _ T3 S3 (F.up S T3) (RV.last S'')
theorem TS1.assignComp {b:Bool} {elt target iter:Expr} {ifs:List Expr} {scope:Scope} {pos:Pos} {vals us:List V} {Ok:St→Prop} {y:Str} {py spos:Pos} (cl:List (Str × Addr)) (Tx:TX w ad r env loc st iter vals Ok st₁ b)
  (L:∀ C,CompR (CTurn w ad r (compEnvC scope cl C env) capt target ifs elt) Ok vals st₁ us st₂) (hgo:(b=true∧∃ x p,target=.Name x p)∨∃ e k p,target=.Tuple e k p)
  (hclos:closureFor scope env=pure cl) (hcell:∀ y∈scope.names,y.2≠.cell) (hkind:scope.kind=.function) (hnames:∀ x∈scope.names,x.2=.local→scope.names.lookup x.1=some .local)
  (hcl:∀ p∈cl,p∈env.cells) (hclp:cl.Pairwise fun x y=>x.2≠y.2)
  (hcapt:∀ x v,capt.lookup x=some v→loc.lookup x=some v∧(env.kindOf x=some .cell∨env.kindOf x=some .free)∧cl.lookup x=env.cells.lookup x∧(relabel scope env).names.lookup x≠some .local)
  (hsz:vals.length≤sizeLine) (hs:∀ x,foldedSetIterable iter env x=pure x:=by intro _;rfl)
  (hsw:swapsWith (.ListComp elt [⟨target,iter,ifs,0⟩] scope pos) (some (.Name y py)) spos.line env=pure true) (hk:env.kindOf y=some .local∨env.kindOf y=some .cell) (hc:env.kindOf y=some .cell→(env.cells.lookup y).isSome=true∧env.func.isSome=true) :
  TS1 w ad r env loc st (.Assign [.Name y py] (.ListComp elt [⟨target,iter,ifs,0⟩] scope pos) spos) none ((y,.ref st₂.length) :: loc) (st₂++[.list us]):=by
 intro A E s μ Q hA S F h
 rw [exec_Assign_Name_used _ _ _ _ hsw]
 refine wpAny_bind (wpAny_standAt (wpAny_bind ?_))
 show wpAny _ A (do let _ ← comprehension (.ListComp elt [⟨target,iter,ifs,0⟩] scope pos) scope env _ (newList []) false (eval iter env) (some (PySem.assign (.Name y py) env))) _ _ s
 refine wpAny_bind (wpAny_mono (Q:=fun _ s'=>Q .next s') (E:=E) ?_ (fun _ s' hq=>wpAny_pure (wpAny_pure hq)) fun _ _ e=>e)
 refine comp_core cl Tx L hgo hclos hcell hkind hnames hcl hclp hcapt hsz hs A E s μ _ _ _ hA S F fun D C h' tk μ' ys T' S' F' D' y' dm' hD0 hDn hm hCm hCt hCn hC0 lC hDC=>?_
 have S3:=S'.adopt D' dm' hDn y'
 have T3:=T'.take (D:=D) hD0
 have F3:=F.up S T3
 show wpAny _ A (PySem.assign (.Name y py) env (.ref D)) _ _ _
 refine wpAny_assign_Name (store hk hc S3 F3 (RV.last S') fun h2 tk2 T2 S2 F2=>?_)
 refine xEEEEA hm fun m' o es ep ho q=>?_
 have hCo:C∉own env:=fun q=>by
  rcases own_mem q with e | ⟨x,hm⟩
  ·refine xEA F.ns fun m hm _=>?_
   exact absurd hm.lt (Nat.not_lt.mpr (e ▸ hC0))
  ·refine xA (F.cells x C hm) fun z'1 _=>?_;refine xEEA z'1 fun cv o ho _=>?_
   exact absurd (Heap.lt_size ho) (Nat.not_lt.mpr hC0)
 have hCm3:C∉muts (μ'++[(D,D)]):=fun q=>by
  rcases mem_muts_append.mp q with q | q
  ·exact hCm q
  ·simp [muts] at q;exact hDC q.symm
 refine xEA ((T2.keep C o ho hCo hCm3 hCt).data) fun o2 ho2 hd2=>?_
 refine ⟨m',⟨o2,es,ep,ho2,hd2.trans q.1,q.2⟩,fun h'' C''=>?_⟩
 have lC2:Loose h2 [C]:=fun b hb o' e=>by
  rw [List.mem_singleton.mp hb,ho2] at e;obtain rfl:=Option.some.inj e
  exact notFixedD (hd2.trans q.1)
 have S4:=S2.same C'' hCn hCm3 lC2
 have T4:Step ad.tabs [C] (μ'++[(D,D)]) h2 (μ'++[(D,D)]) h'':=.same C''
 have F4:=F2.but S2 (by rw [C''.1];exact Nat.le_refl _) C''.extBut ⟨fun e=>hCo (by rw [e];exact .head _),fun x c hm e=>by
  refine xA (F.cells x c hm) fun z'1 _=>?_;refine xEEA z'1 fun cv oo hoo _=>?_
  subst e
  exact absurd (Heap.lt_size hoo) (Nat.not_lt.mpr hC0)⟩ lC2
 exact h .next h'' _ _ ((T3.wide.trans0 T2).trans T4 fun b hb=>.inr (by rw [List.mem_singleton.mp hb];exact hC0)) S4 F4 rfl
end Mine
namespace Mine
open PySem PySem.W PySem.Calls PyProof.Rows
variable {w : World} {ad : Adr} {r : Nat} {st st₁ st₂ st₃ : St} {env : Env} {loc loc₁ loc₂ loc₃ : Loc}
noncomputable def signs (x:Str):List V:=x.cps.toList.map fun c=>.str ⟨#[c]⟩
theorem signs_get {x:Str} {i:Nat} {v:V} (h:(signs x)[i]?=some v):∃ c,x.cps[i]?=some c∧v=.str ⟨#[c]⟩:=by
 simp only [signs,List.getElem?_map] at h
 refine xEA (Option.map_eq_some_iff.mp h) fun c hc q'1=>?_;subst q'1
 exact ⟨c,by simpa using hc,rfl⟩
theorem signs_len {x:Str}:(signs x).length=x.cps.size:=by exact List.length_map ..
theorem go_other {I:Addr} {T:String} {vs:Array Value} {o:Obj} {elts:List Expr} {k:Nat} {pos:Pos} {A:Around} {E:Value→Shared→Prop} {s:Shared} {mv:Value} {Q:Unit→Shared→Prop} (ho:s.heap.get? I=some o) (hc:o.cls=.type T) (hd:o.data=.fields vs)
  (hT:["enumerate","zip","dict_itemiterator","dict_reverseitemiterator","odict_iterator","itertools.zip_longest","itertools.pairwise"].contains T=false) (hQ:Q () s):wpAny (model prog w) A (letOwnedTupleGo (.Tuple elts k pos) (.ref I) mv) Q E s:=by
 cases mv with
 | ref a =>
  unfold letOwnedTupleGo
  refine wpAny_bind (wpAny_load ho ?_)
  rw [hc,hd]
  dsimp only
  rw [hT,Bool.false_and,if_neg Bool.false_ne_true]
  exact wpAny_pure hQ
 | _=>exact wpAny_of_eq (by rfl) hQ
theorem Wk.ascii {x:Str} {t:Tok} {I:Addr}:Wk w ad true (signs x) (fun _=>True) I (fun i _ h=>h.IsStrIter I "str_ascii_iterator" x t i) (fun i _ _ h=>h.IsStrIter I "str_ascii_iterator" x t i) where
 up:=fun i μ more h h' ⟨o,ho,q⟩ k=>⟨o,k _ ho,q⟩
 loose:=fun i μ h ⟨o,ho,hc,_⟩ b hb o' e=>by
  rw [List.mem_singleton.mp hb,ho] at e;obtain rfl:=Option.some.inj e
  exact notFixed hc (by decide)
 item:=fun i v A E s μ st Q hh hv S ok hit hI hn k=>by
  refine xEA (signs_get hv) fun c hc q'1=>?_;subst q'1
  exact wpAny_pyNext_ascii_item hit hc fun h' hit' C=>k _ h' _ C.extBut (by rw [C.1];exact Nat.le_refl _) hit' (.str _ _)
 done:=fun A E s μ st Q hh S ok hit hI k=>wpAny_sized (wpAny_pyNext_ascii_end hh hit (by rw [signs_len];simp) fun h' C hz=>k h' s.toks C hz)
 go:=fun elts k pos A E s μ i mv Q ⟨o,ho,hc,hd⟩ hQ=>go_other ho hc hd (by decide) (hQ s.heap (fun _ _ _ e=>e) (Nat.le_refl _) ⟨o,ho,hc,hd⟩)
 midLoose:=fun i mv μ h ⟨o,ho,hc,_⟩ b hb o' e=>by
  rw [List.mem_singleton.mp hb,ho] at e;obtain rfl:=Option.some.inj e
  exact notFixed hc (by decide)
 nd:=fun i μ h o' ⟨o,ho,hc,hd⟩ e es n q=>by
  rw [ho] at e;obtain rfl:=Option.some.inj e
  rw [hd] at q;cases q
 named:=fun _ _ _ _ _ x=>x
 self:=fun A E s μ i Q hit hQ=>wpAny_pyIter_striter_ascii hit hQ
theorem Wk.wide {x:Str} {t:Tok} {I:Addr}:Wk w ad true (signs x) (fun _=>True) I (fun i _ h=>h.IsStrIter I "str_iterator" x t i) (fun i _ _ h=>h.IsStrIter I "str_iterator" x t i) where
 up:=fun i μ more h h' ⟨o,ho,q⟩ k=>⟨o,k _ ho,q⟩
 loose:=fun i μ h ⟨o,ho,hc,_⟩ b hb o' e=>by
  rw [List.mem_singleton.mp hb,ho] at e;obtain rfl:=Option.some.inj e
  exact notFixed hc (by decide)
 item:=fun i v A E s μ st Q hh hv S ok hit hI hn k=>by
  refine xEA (signs_get hv) fun c hc q'1=>?_;subst q'1
  exact wpAny_pyNext_wide_item hit hc fun h' hit' C=>k _ h' _ C.extBut (by rw [C.1];exact Nat.le_refl _) hit' (.str _ _)
 done:=fun A E s μ st Q hh S ok hit hI k=>wpAny_sized (wpAny_pyNext_wide_end hh hit (by rw [signs_len];simp) fun h' C hz=>k h' s.toks C hz)
 go:=fun elts k pos A E s μ i mv Q ⟨o,ho,hc,hd⟩ hQ=>go_other ho hc hd (by decide) (hQ s.heap (fun _ _ _ e=>e) (Nat.le_refl _) ⟨o,ho,hc,hd⟩)
 midLoose:=fun i mv μ h ⟨o,ho,hc,_⟩ b hb o' e=>by
  rw [List.mem_singleton.mp hb,ho] at e;obtain rfl:=Option.some.inj e
  exact notFixed hc (by decide)
 nd:=fun i μ h o' ⟨o,ho,hc,hd⟩ e es n q=>by
  rw [ho] at e;obtain rfl:=Option.some.inj e
  rw [hd] at q;cases q
 named:=fun _ _ _ _ _ x=>x
 self:=fun A E s μ i Q hit hQ=>wpAny_pyIter_striter_wide hit hQ
theorem TI.str {x:Str}:TI w ad st (.str x) (signs x) (fun _=>True):=by
 intro A E s μ mv Q hh S rv k
 refine xE rv.strE fun _ q'1=>?_;subst q'1
 cases ha:x.cps.all (· < 128) with
 | true=>exact wpAny_pyIter_ascii ha (k s.heap.objs.size _ s.toks _ _ (.push _) (S.push _) Wk.ascii ⟨_,Heap.get?_push_size _ rfl,rfl,rfl⟩ (Nat.le_refl _) (by rw [Heap.size_push];exact Nat.lt_succ_self _))
 | false=>exact wpAny_pyIter_wide ha (k s.heap.objs.size _ s.toks _ _ (.push _) (S.push _) Wk.wide ⟨_,Heap.get?_push_size _ rfl,rfl,rfl⟩ (Nat.le_refl _) (by rw [Heap.size_push];exact Nat.lt_succ_self _))
noncomputable def fromLo (lo:Int) (k:Nat):List V:=(List.range k).map fun (i:Nat)=>.int (lo + (i:Int))
theorem fromLo_get {lo:Int} {k i:Nat} {v:V} (h:(fromLo lo k)[i]?=some v):i < k∧v=.int (lo + i):=by
 simp only [fromLo,List.getElem?_map] at h
 refine xEA (Option.map_eq_some_iff.mp h) fun c hc q'1=>?_;subst q'1
 have hl:=(List.getElem?_eq_some_iff.mp hc)
 refine xE hl fun h1 h2=>?_
 simp at h1 h2
 subst h2
 exact ⟨h1,rfl⟩
theorem Wk.range {lo:Int} {k:Nat} {I:Addr}:Wk w ad true (fromLo lo k) (fun _=>True) I (fun i _ h=>IsRangeIter h I (lo + i) ((k:Int) - i) 1) (fun i _ _ h=>IsRangeIter h I (lo + i) ((k:Int) - i) 1) where
 up:=fun i μ more h h' e k=>k _ e
 loose:=fun i μ h ho b hb o' e=>by
  rw [List.mem_singleton.mp hb,ho] at e;obtain rfl:=Option.some.inj e
  exact notFixed rfl (by decide)
 item:=fun i v A E s μ st Q hh hv S ok hit hI hn kk=>by
  refine xA (fromLo_get hv) fun hi q'1=>?_;subst q'1
  refine wpAny_pyNext_range_item hit (by omega) fun h' hit' C=>kk _ h' _ C.extBut (by rw [C.1];exact Nat.le_refl _) ?_ (.int _ _)
  have e1:lo + ((i + 1:Nat):Int)=lo + i + 1:=by omega
  have e2:(k:Int) - ((i + 1:Nat):Int)=k - i - 1:=by omega
  rw [e1,e2];exact hit'
 done:=fun A E s μ st Q hh S ok hit hI kk=>by
  have e:(fromLo lo k).length=k:=by simp [fromLo]
  rw [e] at hit
  exact wpAny_sized (wpAny_pyNext_range_end hh hit (by omega) fun h' C hz=>kk h' s.toks C hz)
 go:=fun elts k pos A E s μ i mv Q ho hQ=>go_other ho rfl rfl (by decide) (hQ s.heap (fun _ _ _ e=>e) (Nat.le_refl _) ho)
 midLoose:=fun i mv μ h ho b hb o' e=>by
  rw [List.mem_singleton.mp hb,ho] at e;obtain rfl:=Option.some.inj e
  exact notFixed rfl (by decide)
 nd:=fun i μ h o' ho e es n q=>by
  rw [ho] at e;obtain rfl:=Option.some.inj e
  cases q
 named:=fun _ _ _ _ _ x=>x
 self:=fun A E s μ i Q hit hQ=>wpAny_pyIter_rangeiter hit hQ
theorem TX.range1 {p pos:Pos} {e:Expr} {n:Nat} (hm:ad.mg "range"=none) (hk:env.kindOf ("range":Str)=some .globalImplicit) (hns:∀ x p,e≠.Starred x p) (Te:TE w ad r env loc st e (.int n) st₁) (hn:(n:Int) < 2 ^ 62) :
  TX w ad r env loc st (.Call (.Name ("range":Str) p) [e] [] pos) (fromLo 0 n) (fun _=>True) st₁:=by
 intro A E s μ Q hA S F h
 rw [eval_Call_Name]
 refine xEA (S.base.builtin (x:=("range":Str)) (by decide)) fun mb nb eb=>?_
 refine wpAny_bind (Name_function_global F.fn hk (loadGlobal_builtin (v:=.type "range") (F.gl ▸ S.base.ns) hm (F.bl ▸ nb) (eb.trans (by rfl)) ?_) (by decide))
 refine PyProof.Rows.callWith_type1 ?_ (star_plain hns)
 refine (TL.cons hns Te TL.nil) pos A E _ μ _ hA S F fun mvs h₁ tk₁ μ₁ t₁ S₁ F₁ r₁=>?_
 refine r₁.e1 fun _ ra=>?_
 refine xE ra.intE fun _ q'1=>?_;subst q'1
 refine call_range_1 ?_
 dsimp only
 have e1:Builtin.Range.rangeSize 0 n 1=(n:Int):=by rw [rangeSize_one];split <;> omega
 refine wpAny_pyIter_range (a:=0) (b:=(n:Int)) (c:=1) (IsRange.new _ _ _ _ _ _ _) (small_one (by decide) (by decide) (by omega) hn) ?_
 dsimp only
 rw [e1]
 generalize hO:({ cls:=.type "range",data:=.fields #[.int 0 tk₁,.int n _,.int 1 (tk₁ + 1)] }:Obj)=o1
 have T2:Step ad.tabs [] μ₁ h₁ μ₁ ((h₁.push o1).push { cls:=.type "range_iterator",data:=.fields #[rawInt 0,rawInt n,rawInt 1] }):=(Step.push _).trans0 (.push _)
 have S2:=(S₁.push o1).push ({ cls:=.type "range_iterator",data:=.fields #[rawInt 0,rawInt n,rawInt 1] }:Obj)
 have z1:h₁.objs.size≤(h₁.push o1).objs.size:=by rw [Heap.size_push];exact Nat.le_succ _
 refine h (h₁.push o1).objs.size _ _ μ₁ _ _ (t₁.trans0 T2) S2 (Wk.range (lo:=0) (k:=n)) ?_ (Nat.le_trans t₁.size z1) (fun q=>absurd (muts_lt S₁ q) (Nat.not_lt.mpr z1)) (by rw [Heap.size_push,Heap.size_push,Heap.size_push];exact Nat.lt_succ_self _)
 have:=Heap.get?_push_size (h₁.push o1) (o:={ cls:=.type "range_iterator",data:=.fields #[rawInt 0,rawInt n,rawInt 1] }) rfl
 simpa [IsRangeIter] using this
theorem TX.range2 {p pos:Pos} {e e':Expr} {lo:Int} {n:Nat} (hm:ad.mg "range"=none) (hk:env.kindOf ("range":Str)=some .globalImplicit) (hns:∀ x p,e≠.Starred x p) (hns':∀ x p,e'≠.Starred x p) (Te:TE w ad r env loc st e (.int lo) st₁) (Te':TE w ad r env loc st₁ e' (.int (lo + n)) st₂) (hl:-(2 ^ 61)≤lo) (hl':lo < 2 ^ 61) (hn:(n:Int) < 2 ^ 61) :
  TX w ad r env loc st (.Call (.Name ("range":Str) p) [e,e'] [] pos) (fromLo lo n) (fun _=>True) st₂:=by
 intro A E s μ Q hA S F h
 rw [eval_Call_Name]
 refine xEA (S.base.builtin (x:=("range":Str)) (by decide)) fun mb nb eb=>?_
 refine wpAny_bind (Name_function_global F.fn hk (loadGlobal_builtin (v:=.type "range") (F.gl ▸ S.base.ns) hm (F.bl ▸ nb) (eb.trans (by rfl)) ?_) (by decide))
 refine PyProof.Rows.callWith_type1 ?_ (star_plain hns) (by rw [star_plain hns'];rfl)
 refine (TL.cons hns Te (TL.cons hns' Te' TL.nil)) pos A E _ μ _ hA S F fun mvs h₁ tk₁ μ₁ t₁ S₁ F₁ r₁=>?_
 refine r₁.e2 fun _ _ ra rb=>?_
 refine xE ra.intE fun _ q'1=>?_;subst q'1
 refine xE rb.intE fun _ q'1=>?_;subst q'1
 refine call_range_2 ?_
 dsimp only
 have e1:Builtin.Range.rangeSize lo (lo + n) 1=(n:Int):=by rw [rangeSize_one];split <;> omega
 refine wpAny_pyIter_range (a:=lo) (b:=lo + (n:Int)) (c:=1) (IsRange.new _ _ _ _ _ _ _) (small_one (by omega) (by omega) (by omega) (by omega)) ?_
 dsimp only
 rw [e1]
 generalize hO:({ cls:=.type "range",data:=.fields #[.int lo _,.int (lo + n) _,.int 1 tk₁] }:Obj)=o1
 have T2:Step ad.tabs [] μ₁ h₁ μ₁ ((h₁.push o1).push { cls:=.type "range_iterator",data:=.fields #[rawInt lo,rawInt n,rawInt 1] }):=(Step.push _).trans0 (.push _)
 have S2:=(S₁.push o1).push ({ cls:=.type "range_iterator",data:=.fields #[rawInt lo,rawInt n,rawInt 1] }:Obj)
 have z1:h₁.objs.size≤(h₁.push o1).objs.size:=by rw [Heap.size_push];exact Nat.le_succ _
 refine h (h₁.push o1).objs.size _ _ μ₁ _ _ (t₁.trans0 T2) S2 (Wk.range (lo:=lo) (k:=n)) ?_ (Nat.le_trans t₁.size z1) (fun q=>absurd (muts_lt S₁ q) (Nat.not_lt.mpr z1)) (by rw [Heap.size_push,Heap.size_push,Heap.size_push];exact Nat.lt_succ_self _)
 have:=Heap.get?_push_size (h₁.push o1) (o:={ cls:=.type "range_iterator",data:=.fields #[rawInt lo,rawInt n,rawInt 1] }) rfl
 simpa [IsRangeIter] using this
theorem TM.list {name:Str} {id:String} {n:Nat} {l:List V} (hs:st[n]?=some (.list l)) (slot:Slot "list" name id) (hty:typeOf (.builtin id)=pure (.type "method_descriptor")) :
  TM w ad r st name (.ref n) (.builtin id) [.ref n]:=by
 intro A E s μ x pl Q hA S hx k
 refine hx.ref_ fun _ _ hm=>?_
 refine xAEEA (S.obj n _ _ hm hs) fun _ mvs j hg hv=>?_
 exact getMethod_builtin ⟨_,hg,rfl⟩ F.plainAttrs_list slot hty (fun a e=>by cases e;exact ⟨_,hg,rfl⟩) (k s.toks _ (.cons (.ref hm) .nil))
theorem TM.str {name:Str} {id:String} {t:Str} (slot:Slot "str" name id) (hty:typeOf (.builtin id)=pure (.type "method_descriptor")) :
  TM w ad r st name (.str t) (.builtin id) [.str t]:=by
 intro A E s μ x pl Q hA S hx k
 refine xE hx.strE fun _ q'1=>?_;subst q'1
 exact getMethod_builtin (by rfl) F.plainAttrs_str slot hty (fun a e=>by cases e) (k s.toks _ (.cons (.str _ _) .nil))
theorem TO.append {n:Nat} {l:List V} {v:V} (hs:st[n]?=some (.list l)) (hl:l.length < 2 ^ 24) :
  TO w ad r st (fun xs=>PySem.call (.builtin "list.append") xs) [.ref n,v] .none (st.set n (.list (l++[v]))):=by
 intro A E s μ xs Q hA S hx k
 refine hx.e2 fun _ _ hx hy=>?_
 refine hx.ref_ fun _ _ hm=>?_
 refine xAEEA (S.obj n _ _ hm hs) fun e2 mvs j hg hv=>?_
 have hsz:mvs.size=l.length:=by have:=hv.length;simpa using this.symm
 refine wpAny_list_append_plain ⟨j,hg⟩ (fun h' hP hB=>?_) (by rw [hsz];unfold sizeLine;exact Nat.le_of_lt ‹_›)
 refine xE hP fun j' hg'=>?_
 refine k _ _ s.toks μ ?_ (S.setList hm hs hB hg' (by rw [Array.toList_push];exact hv.append (.cons hy .nil))) .none
 have T:Step ad.tabs [_] μ s.heap μ h':=.same hB
 exact ⟨T.ext,T.size,fun a o e _ ha ht=>T.keep a o e (fun hx=>ha (by rw [List.mem_singleton.mp hx];exact mem_muts.mpr ⟨n,_,hm,.inl rfl⟩)) ha ht⟩
end Mine
namespace Mine
open PySem PySem.W PySem.Calls PyProof.Rows PySem.Builtin PySem.Builtin.List PySem.Builtin.Str
variable {w : World} {ad : Adr} {r : Nat} {st st₁ st₂ st₃ : St} {env : Env} {loc loc₁ loc₂ loc₃ : Loc}
theorem wpAny_extend_any {A:Around} {s:Shared} {E:Value→Shared→Prop} {Q:Fin→Shared→Prop} (S it:Addr) (res:Value) {items mine:Array Value} {n j:Nat}
  (hS:s.heap.get? S=some (listOf mine j)) (ho:s.heap.get? it=some (listOf items n))
  (hQ:Q (.done (.ret res)) { s with heap:=s.heap.update S (Obj.mapSeq (·++items)) }) (hsz:mine.size + items.size≤sizeLine) :
  wpAny (model prog w) A.in1 (Builtin.List.listExtendWith (.ref S) (.ref it) res) Q E s:=by
 unfold Builtin.List.listExtendWith
 refine wpAny_bind (wpAny_typeOf ⟨_,ho,rfl⟩ ?_)
 have h1:(Builtin.List.listSameRef (.ref S) (.ref it) || Value.type "list" == Value.type "list" || Value.type "list" == Value.type "tuple")=true:=by simp
 simp only [h1,if_true]
 refine wpAny_bind ?_
 unfold Builtin.List.listItems
 refine wpAny_bind (wpAny_seqItems ho rfl (wpAny_pure ?_))
 refine wpAny_bind ?_
 refine wpAny_bind (wpAny_seqItems hS rfl (wpAny_pure ?_))
 have h2:(!mine.isEmpty && Builtin.List.listTooLong (mine.size + items.size))=false:=by
  have:Builtin.List.listTooLong (mine.size + items.size)=false:=by unfold Builtin.List.listTooLong;exact decide_eq_false (by exact Nat.not_lt.mpr ‹_›)
  rw [this,Bool.and_false]
 simp only [h2]
 show wpAny _ A.in1 (updateSeq S (·++items) >>= fun _=>ret res) _ _ s
 refine wpAny_bind (wpAny_updateSeq hS rfl ?_ (by omega) (by simp only [Array.size_append];exact Nat.le_succ_of_le ‹_›))
 exact wpAny_pure hQ
theorem TO.extend {n m:Nat} {l l':List V} (hs:st[n]?=some (.list l)) (hs':st[m]?=some (.list l')) (hl:l.length + l'.length < 2 ^ 24) :
  TO w ad r st (fun xs=>PySem.call (.builtin "list.extend") xs) [.ref n,.ref m] .none (st.set n (.list (l++l'))):=by
 intro A E s μ xs Q hA S hx k
 refine hx.e2 fun _ _ hx hy=>?_
 refine hx.ref_ fun pa pd hm=>?_
 refine hy.ref_ fun pa' pd' hm'=>?_
 refine xAEEA (S.obj n _ _ hm hs) fun e2 mvs j hg hv=>?_
 refine xAEEA (S.obj m _ _ hm' hs') fun e2' mvs' j' hg' hv'=>?_
 have hsz:mvs.size=l.length:=by have:=hv.length;simpa using this.symm
 have hsz':mvs'.size=l'.length:=by have:=hv'.length;simpa using this.symm
 refine wpAny_call_entry F.slot_list_extend ⟨_,hg,rfl⟩ F.entry_list_extend ?_ (F.args_list_extend_2 _ _)
 refine wpAny_extend_any (s:=s) _ _ .none hg hg' ⟨.none,rfl,?_⟩ (by rw [hsz,hsz'];unfold sizeLine;exact Nat.le_of_lt ‹_›)
 have hB:Heap.SameBut pa s.heap (s.heap.update pa (Obj.mapSeq (·++mvs'))):=Heap.SameBut.update ..
 refine k _ _ s.toks μ (.own hm hB) (S.setList (mvs:=mvs++mvs') (k:=if (mvs++mvs').size == mvs.size then j else j + 1) hm hs hB ?_ (by rw [Array.toList_append];exact hv.append hv')) .none
 rw [Heap.get?_update_self _ hg rfl]
 rfl
theorem strs_of {μ:Mu} {h:Heap}:∀ {ts:List Str} {xs:List Value},All2 (RV cPair μ h) (ts.map V.str) xs→∃ l:List (Str × Tok),l.map (·.1)=ts∧strValues l=xs
 | [],_,.nil=>⟨[],rfl,rfl⟩
 | t :: ts,_,.cons hx hn=>by
  refine xEA (strs_of hn) fun l h1 h2=>?_
  refine hx.str_ fun u=>?_
  exact ⟨(t,u) :: l,by rw [List.map_cons,h1],by show Value.str t u :: strValues l=_;rw [h2]⟩
theorem TO.join {n:Nat} {sep:Str} {ts:List Str} (hs:st[n]?=some (.list (ts.map V.str))) (hl:tooLong (ts.toArray.foldl (· + ·.length + sep.length) 0)=false) (hg:(glued sep ts).length≤sizeLine) :
  TO w ad r st (fun xs=>PySem.call (.builtin "str.join") xs) [.str sep,.ref n] (.str (glued sep ts)) st:=by
 intro A E s μ xs Q hA S hx k
 refine hx.e2 fun _ _ hx hy=>?_
 refine hx.str_ fun u=>?_
 refine hy.ref_ fun pa pd hm=>?_
 refine S.listOn hs hm fun mvs hL hv=>?_
 refine xEA (strs_of hv) fun l h1 h2=>?_
 subst h1
 refine call_meets F.slot_str_join (by rfl) F.entry_str_join (F.args_str_join_2 _ _) (meets_str_join_list sep u pa l hl) ⟨by rw [h2];exact hL,?_⟩
 have one:(joinMade sep l).post (fun v s'=>wants Q E (.ok (.ret v)) s') s=_:=rfl
 match l,one with
 | [],_=>exact ⟨hg,k _ _ _ μ .refl S (.str _ _)⟩
 | [p],_=>
  have e:glued sep [p.1]=p.1:=by unfold glued;rfl
  have:=k (.str p.1 p.2) _ s.toks μ .refl S (by show RV _ _ _ (.str (glued sep [p.1])) _;rw [e];exact .str _ _)
  exact this
 | p :: q :: l,_=>exact ⟨hg,k _ _ _ μ .refl S (.str _ _)⟩
theorem TO.lower {x:Str} (h:tooLong (placed x fun i _=>Unicode.lowerAt x.cps i).size=false) :
  TO w ad r st (fun xs=>PySem.call (.builtin "str.lower") xs) [.str x] (.str ⟨placed x fun i _=>Unicode.lowerAt x.cps i⟩) st:=by
 intro A E s μ xs Q hA S hx k
 refine hx.e1 fun _ hx=>?_
 refine hx.str_ fun u=>?_
 refine call_gives F.slot_str_lower (by rfl) F.entry_str_lower (F.args_str_lower_1 _) (gives_str_lower x u h) ⟨?_,k _ _ _ μ .refl S (.str _ _)⟩
 have:=of_decide_eq_false h
 exact Nat.le_of_not_lt this
end Mine
namespace Mine
open PySem PySem.W PySem.Calls PyProof.Rows PySem.Builtin PySem.Builtin.List
variable {w : World} {ad : Adr} {r : Nat} {st st₁ st₂ st₃ : St} {env : Env} {loc loc₁ loc₂ loc₃ : Loc}
theorem Sim.here {μ:Mu} {h:Heap} (S:Sim w ad μ st h) {p:Addr × Addr}:(μ++[p])[st.length]?=some p:=by
 rw [List.getElem?_append_right (Nat.le_of_eq S.len),S.len,Nat.sub_self];rfl
theorem TO2.lcat {n m:Nat} {l l':List V} (hs:st[n]?=some (.list l)) (hs':st[m]?=some (.list l')) (hl:l.length + l'.length < 2 ^ 24) :
  TO2 w ad r st (binaryOp .Add) (.ref n) (.ref m) (.ref st.length) (st++[.list (l++l')]):=by
 intro A E s μ x y Q hA S hx hy k
 refine hx.ref_ fun pa pd hm=>?_
 refine hy.ref_ fun pa' pd' hm'=>?_
 refine xAEEA (S.obj n _ _ hm hs) fun e2 mvs j hg hv=>?_
 refine xAEEA (S.obj m _ _ hm' hs') fun e2' mvs' j' hg' hv'=>?_
 have hsz:mvs.size=l.length:=by have:=hv.length;simpa using this.symm
 have hsz':mvs'.size=l'.length:=by have:=hv'.length;simpa using this.symm
 have PP:=S.pushList (hv.append hv')
 have e:(mvs.toList++mvs'.toList).toArray=mvs++mvs':=by simp
 rw [e] at PP
 refine PySem.P.add_list (items:=mvs) (items2:=mvs') (n:=j) (n2:=j') hg hg' ?_ (by rw [hsz,hsz'];unfold sizeLine;exact Nat.le_of_lt ‹_›)
 exact k _ _ s.toks _ (.pushNew _) PP (.ref S.here)
theorem rep_one (x:Value):∀ (k:Nat) (acc:Array Value),(List.foldl (fun x1 x2=>x1++x2) acc (List.replicate k #[x])).toList=acc.toList++List.replicate k x
 | 0,acc=>by simp
 | k + 1,acc=>by
  rw [List.replicate_succ,List.foldl_cons,rep_one x k,Array.toList_append,List.append_assoc];rfl
theorem all_rep {μ:Mu} {h:Heap} {v:V} {x:Value} (rx:RV cPair μ h v x):∀ k,All2 (RV cPair μ h) (List.replicate k v) (List.replicate k x)
 | 0=>.nil
 | k + 1=>.cons rx (all_rep rx k)
theorem mul_any {A:Around} {E:Value→Shared→Prop} {s:Shared} {l:Addr} {items:Array Value} {k:Nat} {x:Int} {u:Tok} {Q:Value→Shared→Prop}
  (hl:s.heap.get? l=some { cls:=.type "list",dict:=none,data:=.seq items k,slots:=#[] })
  (hlo:-(2 ^ 63:Int)≤x) (hhi:x < 2 ^ 63) (hsz:items.size * x.toNat≤2 ^ 24)
  (h:Q (.ref s.heap.objs.size) { s with heap:=s.heap.push { cls:=.type "list",data:=.seq (List.foldl (fun x1 x2=>x1++x2) #[] (List.replicate (if items.isEmpty=true then 0 else x.toNat) items)) } }) :
  wpAny (model prog w) A (binaryOp .Mult (.ref l) (.int x u)) Q E s :=
 wpAny_binaryOp_repeat_ref (T:="list") (U:="int") (by decide) ⟨_,hl,rfl⟩ (fun s'=>typeIs_int s' x u) noFill_list_mul F.fills_int_mul F.slot_int_rmul repeat_list F.slot_int_index.lookup
  (call_meets F.slot_int_rmul (typeIs_int s x u) F.entry_int_rmul (F.args_int_rmul_2 _ _) (int___rmul___int_list x u l items k)
   ⟨hl,rfl,⟨_,hl,rfl⟩,call_meets F.slot_list_mul ⟨_,hl,rfl⟩ F.entry_list_mul (F.args_list_mul_2 _ _)
    (AutoListH.list___mul___list_int_3 l items k x u (by simp [Builtin.List.listFitsIndex];trivial) (by omega) (by simp [Builtin.List.listTooLong,sizeLine];omega))
    ⟨hl,h⟩⟩)
theorem TO2.lmul {n k:Nat} {v:V} (hs:st[n]?=some (.list [v])) (hk:k < 2 ^ 24) :
  TO2 w ad r st (binaryOp .Mult) (.ref n) (.int k) (.ref st.length) (st++[.list (List.replicate k v)]):=by
 intro A E s μ x y Q hA S hx hy K
 refine hx.ref_ fun pa pd hm=>?_
 refine hy.int_ fun u=>?_
 refine xAEEA (S.obj n _ _ hm hs) fun e2 mvs j hg hv=>?_
 obtain ⟨ms⟩:=mvs
 refine xEA hv.one fun x q'1 rx=>?_;subst q'1
 have PP:=S.pushList (all_rep rx k)
 have e:(List.replicate k x).toArray=List.foldl (fun x1 x2=>x1++x2) #[] (List.replicate (if (#[x]:Array Value).isEmpty=true then 0 else (k:Int).toNat) #[x]):=by
  apply Array.toList_inj.mp
  rw [rep_one];rfl
 rw [e] at PP
 refine mul_any (items:=#[x]) (k:=j) hg (by omega) (by omega) (by show 1 * (k:Int).toNat≤_;omega) ?_
 exact K _ _ s.toks _ (.pushNew _) PP (.ref S.here)
theorem All2.take {α β:Type} {R:α→β→Prop} {l:List α} {m:List β} (k:Nat) (x:All2 R l m):All2 R (l.take k) (m.take k):=by
 induction x generalizing k with
 | nil=>rw [List.take_nil,List.take_nil];exact .nil
 | cons h _ ih=>cases k with
  | zero=>exact .nil
  | succ k=>exact .cons h (ih k)
theorem TE.sliceTo {value hi:Expr} {p pos:Pos} {n k:Nat} {l:List V} (T:TE w ad r env loc st value (.ref n) st₁) (T':TE w ad r env loc st₁ hi (.int k) st₂) (hs:st₂[n]?=some (.list l)) (hl:l.length < 2 ^ 24)
  (ht:∀ o r,letTemporaryGo value o r=pure ():=by intro _ _;rfl) :
  TE w ad r env loc st (.Subscript value (.Slice none (some hi) none p) pos) (.ref st₂.length) (st₂++[.list (l.take k)]):=by
 intro A E s μ Q hA S F h
 refine wpAny_Subscript_Slice (T:="list") (id:="list.__getitem__") list_getitem_lookup ?_ ht
 refine T A E s μ _ hA S F fun mv h₁ tk₁ μ₁ t₁ S₁ F₁ r₁=>?_
 refine wpAny_Slice (wpAny_pure ?_)
 refine T' A E _ μ₁ _ hA S₁ F₁ fun mv₂ h₂ tk₂ μ₂ t₂ S₂ F₂ r₂=>?_
 refine wpAny_pure ?_
 have r₁':=r₁.up S₁ t₂ Loose.nil
 refine r₁'.ref_ fun pa pd hm=>?_
 refine r₂.int_ fun u=>?_
 refine xAEEA (S₂.obj n _ _ hm hs) fun e2 mvs j hg hv=>?_
 have hsz:mvs.size=l.length:=by have:=hv.length;simpa using this.symm
 have L:Heap.IsList (h₂.push { cls:=.type "slice",data:=.fields #[.none,.int k u,.none] }) pa mvs:=⟨_,Heap.get?_push_of_some _ hg,rfl,j,rfl⟩
 refine ⟨Heap.IsList.typeIs (s:={ heap:=_,gens:=_,drawn:=_,toks:=_,os:=_ }) L,?_⟩
 refine wpAny_getItem_list_slice L (Heap.IsSliceOf.new ..) .none (.int _ u) .none (by simp) ?_ (by rw [hsz];unfold sizeLine;exact Nat.le_of_lt ‹_›)
 rw [slicePick_upto']
 have SS:=S₂.push { cls:=.type "slice",data:=.fields #[.none,.int k u,.none] }
 have tS:Step ad.tabs [] μ₂ h₂ μ₂ (h₂.push { cls:=.type "slice",data:=.fields #[.none,.int k u,.none] }):=.push _
 have PP:=SS.pushList (((hv.imp fun _ _ r=>r.up S₂ tS Loose.nil)).take k)
 have T₃:Step ad.tabs [] μ₂ (h₂.push { cls:=.type "slice",data:=.fields #[.none,.int k u,.none] }) _ _:=.pushNew (listOf (List.take k mvs.toList).toArray 0)
 exact h _ _ tk₂ _ (((t₁.trans0 t₂).trans0 tS).trans0 T₃) PP ((F₂.up S₂ tS).up SS T₃) (.ref S₂.here)
end Mine
namespace Mine
open PySem PySem.W PySem.Calls PyProof.Rows PySem.Builtin
variable {w : World} {ad : Adr} {r : Nat} {st st₁ st₂ st₃ : St} {env : Env} {loc loc₁ loc₂ loc₃ : Loc}
theorem dl_kind:builtinKind "dict.__len__"=some .slot:=by decide +kernel
theorem dl_split:splitId "dict.__len__"=some ("dict","__len__"):=by decide +kernel
theorem dl_args (a:Value):argsOk "dict.__len__" ⟨[a],[]⟩:=by unfold argsOk;kernel_rfl
theorem call_dictlen {A:Around} {E:Value→Shared→Prop} {s:Shared} {x d:Addr} {ens des:Array DictEntry} {n dn:Nat} {fac:Value} {Q:Value→Shared→Prop} (X:(fragK w).In s.heap) (hx:(x == sysModules)=false)
  (hg:s.heap.get? x=some (fddOf d ens n fac)) (hd:s.heap.get? d=some { cls:=.type "dict",data:=.dict des dn })
  (hsz:ens.size < 2 ^ 24) (hQ:Q (.int ens.size s.toks) { s with toks:=s.toks + 1 }):wpAny (model prog w) A (call (.builtin "dict.__len__") [.ref x]) Q E s:=by
 obtain ⟨hh,g,dr,tk,os⟩:=s
 dsimp only at X hg hd hQ
 have In:=fddInst hg hd
 have L0:=In.type (M:=model Mine.prog w)
 have L1:Looks (model Mine.prog w) hh (isInstance (.ref x) (.type "dict")) true:=L0.andThen (looks_subIn X (by kernel_rfl))
 refine wpAny_call (codeAny_call_builtin F.slot_dict_len.plain F.entry_dict_len (@check_slot (model prog w) _ _ _ "dict.__len__" "dict" "__len__" (.ref x) [] [] _ dl_kind dl_split L1 (dl_args _) ?_))
 unfold Builtin.«dict.__len__»
 repeat lk
 rw [if_neg (by rw [hx];decide)]
 refine wpAny_pure ?_
 have e:((ens.size:Int) + ((0:Nat):Int))=ens.size:=by simp
 show wpAny _ _ (retInt ((ens.size:Int) + ((0:Nat):Int))) _ _ _
 rw [e]
 exact wpAny_bind (wpAny_mkInt (wpAny_pure hQ))
theorem call_len_fdd {A:Around} {E:Value→Shared→Prop} {s:Shared} {x d:Addr} {ens des:Array DictEntry} {n dn:Nat} {fac:Value} {Q:Value→Shared→Prop} (X:(fragK w).In s.heap) (hx:(x == sysModules)=false)
  (hg:s.heap.get? x=some (fddOf d ens n fac)) (hd:s.heap.get? d=some { cls:=.type "dict",data:=.dict des dn })
  (hsz:ens.size < 2 ^ 24) (hQ:∀ t t',Q (.int ens.size t) { s with toks:=t' }):wpAny (model prog w) A (call (.builtin "len") [.ref x]) Q E s:=by
 obtain ⟨hh,g,dr,tk,os⟩:=s
 dsimp only at X hg hd hQ
 have In:=fddInst hg hd
 have L0:=In.type (M:=model Mine.prog w)
 have L1:Looks (model Mine.prog w) hh (isInstance (.ref x) (.type "dict")) true:=L0.andThen (looks_subIn X (by kernel_rfl))
 have L2:Looks (model Mine.prog w) hh (specialOf (.ref x) "__len__") (some (.builtin "dict.__len__")):=L0.andThen (looks_findIn X (by kernel_rfl))
 refine Calls.call_function_entry kind_len plain_len entry_len (args_len1 _) ?_
 unfold Builtin.«len»
 repeat first | with_reducible refine wpAny_mono (call_dictlen (E:=fun _ _=>False) (Q:=fun v s'=>v=.int ens.size tk∧s'={ heap:=hh,gens:=g,drawn:=dr,toks:=tk + 1,os:=os }) X hx hg hd hsz ⟨rfl,rfl⟩) ?_ (fun _ _ z=>z.elim) | lk
 rintro _ _ ⟨rfl,rfl⟩
 refine wpAny_pure ?_
 refine wpAny_bind (wpAny_holding (wpAny_pure ?_))
 refine wpAny_bind (wpAny_letGo ?_)
 show wpAny _ _ (if ((ens.size:Nat):Int) < 0 then _ else _) _ _ _
 rw [if_neg (by omega)]
 show wpAny _ _ (if ((ens.size:Nat):Int) ≥ 2 ^ 63 then _ else _) _ _ _
 rw [if_neg (by omega)]
 exact wpAny_bind (wpAny_mkInt (wpAny_pure ⟨_,rfl,hQ _ _⟩))
theorem TO.lenFdd {n:Nat} {nodes:Bool} {es:List (V × V)} {fr:Option Nat} (hs:st[n]?=some (.fdd nodes es fr)) (hl:es.length < 2 ^ 24):TO w ad r st (fun xs=>call (.builtin "len") xs) [.ref n] (.int es.length) st:=by
 intro A E s μ xs Q hA S hx k
 refine hx.e1 fun _ hx=>?_
 refine hx.ref_ fun pa pd hm=>?_
 refine S.fddOn hs hm fun _ ens j fac dn des hg he _ _ hd _=>?_
 have hsz:ens.size=es.length:=by have:=he.length;simpa using this.symm
 refine call_len_fdd S.base.frag (S.notSys hm) hg hd (by rw [hsz];exact hl) fun t t'=>?_
 rw [hsz]
 exact k _ _ _ μ .refl S (.int _ _)
theorem TB.andNil {pos:Pos} {whole:Sem Value}:TB w ad r env loc st (isTrue (.BoolOp .And [] pos) env whole) true st:=by
 intro A E s μ Q hA S F h
 exact isTrue_and_nil (h _ s.toks μ .refl S F)
theorem TB.orNil {pos:Pos} {whole:Sem Value}:TB w ad r env loc st (isTrue (.BoolOp .Or [] pos) env whole) false st:=by
 intro A E s μ Q hA S F h
 exact isTrue_or_nil (h _ s.toks μ .refl S F)
theorem TB.andF {x:Expr} {rest:List Expr} {pos:Pos} {whole:Sem Value} (T:TB w ad r env loc st (isTrue x env (eval x env)) false st₁):TB w ad r env loc st (isTrue (.BoolOp .And (x :: rest) pos) env whole) false st₁:=by
 intro A E s μ Q hA S F h
 refine isTrue_and (T A E s μ _ hA S F fun h' tk μ' t S' F'=>?_)
 exact h h' tk μ' t S' F'
theorem TB.andT {x:Expr} {rest:List Expr} {pos:Pos} {whole:Sem Value} {b:Bool} (T:TB w ad r env loc st (isTrue x env (eval x env)) true st₁)
  (T':TB w ad r env loc st₁ (isTrue (.BoolOp .And rest pos) env whole) b st₂):TB w ad r env loc st (isTrue (.BoolOp .And (x :: rest) pos) env whole) b st₂:=by
 intro A E s μ Q hA S F h
 refine isTrue_and (T A E s μ _ hA S F fun h' tk μ' t S' F'=>?_)
 exact T' A E _ μ' _ hA S' F' fun h₂ tk₂ μ₂ t₂ S₂ F₂=>h h₂ tk₂ μ₂ (t.trans0 t₂) S₂ F₂
theorem TB.orF {x:Expr} {rest:List Expr} {pos:Pos} {whole:Sem Value} {b:Bool} (T:TB w ad r env loc st (isTrue x env (eval x env)) false st₁)
  (T':TB w ad r env loc st₁ (isTrue (.BoolOp .Or rest pos) env whole) b st₂):TB w ad r env loc st (isTrue (.BoolOp .Or (x :: rest) pos) env whole) b st₂:=by
 intro A E s μ Q hA S F h
 refine isTrue_or (T A E s μ _ hA S F fun h' tk μ' t S' F'=>?_)
 exact T' A E _ μ' _ hA S' F' fun h₂ tk₂ μ₂ t₂ S₂ F₂=>h h₂ tk₂ μ₂ (t.trans0 t₂) S₂ F₂
theorem TO2.noneIsNot:TO2 w ad r st (compareOp .IsNot) .none .none (.bool false) st:=by
 intro A E s μ x y Q hA S rx ry k
 cases rx;obtain rfl:=ry.noneE
 exact wpAny_isNot_self rfl (k _ _ s.toks μ .refl S (.bool false))
theorem TO2.strIsNot {t:Str}:TO2 w ad r st (compareOp .IsNot) (.str t) .none (.bool true) st:=by
 intro A E s μ x y Q hA S rx ry k
 cases rx;obtain rfl:=ry.noneE
 exact wpAny_isNot_other rfl (fun e=>nomatch e) (k _ _ s.toks μ .refl S (.bool true))
mutual
inductive Deep (st:St):V→PyData→Prop
 | none:Deep st .none .none
 | bool (b:Bool):Deep st (.bool b) (.bool b)
 | int (i:Int):Deep st (.int i) (.int i)
 | str (x:Str):Deep st (.str x) (.str x)
 | tup2 {a b:V} {x y:PyData}:Deep st a x→Deep st b y→Deep st (.tup2 a b) (.tuple [x,y])
 | tup4 {a b c d:V} {x y z u:PyData}:Deep st a x→Deep st b y→Deep st c z→Deep st d u→Deep st (.tup4 a b c d) (.tuple [x,y,z,u])
 | list {n:Nat} {l:List V} {xs:List PyData}:st[n]?=some (.list l)→DeepAll st l xs→Deep st (.ref n) (.list xs)
inductive DeepAll (st:St):List V→List PyData→Prop
 | nil:DeepAll st [] []
 | cons {v:V} {l:List V} {d:PyData} {xs:List PyData}:Deep st v d→DeepAll st l xs→DeepAll st (v :: l) (d :: xs)
end
theorem Deep.reads {μ:Mu} {s:Heap} (S:Sim w ad μ st s) {v:V} {d:PyData} (D:Deep st v d) {mv:Value} (r:RV cPair μ s v mv):∃ as,Reads s mv d as:=by
 revert mv
 refine Deep.rec (motive_1:=fun v d _=>∀ {mv:Value},RV cPair μ s v mv→∃ as,Reads s mv d as) (motive_2:=fun l xs _=>∀ {mvs:List Value},All2 (RV cPair μ s) l mvs→∃ as,ReadsAll s mvs xs as) ?_ ?_ ?_ ?_ ?_ ?_ ?_ ?_ ?_ D
 ·exact fun r=>r.none_ ⟨_,.none⟩
 ·exact fun b _ r=>r.bool_ ⟨_,.bool b⟩
 ·exact fun i _ r=>r.int_ fun t=>⟨_,.int i t⟩
 ·exact fun x _ r=>r.str_ fun t=>⟨_,.str x t⟩
 ·intro _ _ _ _ _ _ iha ihb _ r
  refine r.tup2_ fun _ _ _ _ hg ra rb=>?_
  refine xE (iha ra) fun as p=>?_
  refine xE (ihb rb) fun bs q=>?_
  exact ⟨_,.tuple hg rfl rfl (.cons p (.cons q .nil))⟩
 ·intro _ _ _ _ _ _ _ _ _ _ _ _ iha ihb ihc ihd _ r
  refine r.tup4_ fun _ _ _ _ _ _ hg ra rb rc rd=>?_
  refine xE (iha ra) fun as p=>?_
  refine xE (ihb rb) fun bs q=>?_
  refine xE (ihc rc) fun cs p'=>?_
  refine xE (ihd rd) fun ds q'=>?_
  exact ⟨_,.tuple hg rfl rfl (.cons p (.cons q (.cons p' (.cons q' .nil))))⟩
 ·intro _ _ _ hs _ ih _ r
  refine r.ref_ fun _ _ hm=>?_
  refine xAEEA (S.obj _ _ _ hm hs) fun _ mvs k hg hv=>?_
  refine xE (ih hv) fun as p=>?_
  exact ⟨_,.list hg rfl rfl p⟩
 ·exact fun r=>r.e0 ⟨_,.nil⟩
 ·intro _ _ _ _ _ _ ih it _ r
  refine r.ec fun _ _ rh rt=>?_
  refine xE (ih rh) fun as p=>?_
  refine xE (it rt) fun bs q=>?_
  exact ⟨_,.cons p q⟩
theorem AOk.cline {A:Around} {d:PyData} {k:Nat} (hA:AOk r A) (hd:k≤20):A.units + 1 + k < cLine:=by
 have:=hA.units
 show _ < 9900
 omega
theorem TO2.notInList {c x:V} {xs:List PyData} {d:PyData} (hc:Deep st c (.list xs)) (hx:Deep st x d) (hxs:PyData.canLayAll0 xs=true) (hd:d.canLay0=true) (hu:d.depth≤20) :
  TO2 w ad r st (compareOp .NotIn) x c (.bool (!xs.any fun y=>PyData.eqv y d)) st:=by
 intro A E s μ a b Q hA S ra rb k
 refine xE (hc.reads S rb) fun as p=>?_
 refine xE (hx.reads S ra) fun bs q=>?_
 exact SeqAt.notIn_list_reads p q hxs hd (hA.cline (d:=d) (Nat.le_trans (Nat.min_le_right _ _) hu)) (k _ _ s.toks μ .refl S (.bool _))
theorem TO2.eqDeep {x y:V} {d e:PyData} (hx:Deep st x d) (hy:Deep st y e) (hd:d.canLay0=true) (he:e.canLay0=true) (hu:d.depth≤20) :
  TO2 w ad r st (compareOp .Eq) x y (.bool (PyData.eqv d e)) st:=by
 intro A E s μ a b Q hA S ra rb k
 refine xE (hx.reads S ra) fun as p=>?_
 refine xE (hy.reads S rb) fun bs q=>?_
 exact SeqAt.compareEq_reads p q hd he (by have:=hA.cline (d:=d) (Nat.le_trans (Nat.min_le_left d.depth e.depth) hu);omega) (k _ _ s.toks μ .refl S (.bool _))
theorem TO2.neDeep {x y:V} {d e:PyData} (hx:Deep st x d) (hy:Deep st y e) (hd:d.canLay0=true) (he:e.canLay0=true) (hu:d.depth≤20) :
  TO2 w ad r st (compareOp .NotEq) x y (.bool (!PyData.eqv d e)) st:=by
 intro A E s μ a b Q hA S ra rb k
 refine xE (hx.reads S ra) fun as p=>?_
 refine xE (hy.reads S rb) fun bs q=>?_
 exact SeqAt.compareNe_reads p q hd he (by have:=hA.cline (d:=d) (Nat.le_trans (Nat.min_le_left d.depth e.depth) hu);omega) (k _ _ s.toks μ .refl S (.bool _))
section
variable {A:Around} {E:Value→Shared→Prop} {s:Shared} {x:Addr} {ox:Obj} {od:Option Obj}
theorem own_method {C d:Addr} {T gi:String} {name:Str} {f:Value} {tf:Value} {od:Obj} {pl:Sem Bool} {Q:Value × List Value→Shared→Prop} (G:OwnGA w C T gi) (hcan:(Manifest.canonical gi != "object.__getattribute__")=false) (X:(fragK w).In s.heap) (I:InstAt s.heap x ox C (some od))
  (hf:findIn (fragK w) (.ref C) name=some (some f)) (ht:typeIn (fragK w) f=some tf) (hk:(tf != .type "function" && tf != .type "method_descriptor" && tf != .type "wrapper_descriptor")=false)
  (hdx:ox.dict=some d) (hl:lookIn name od=some none)
  (h:Q (f,[.ref x]) s):wpAny (model prog w) A (getMethod (.ref x) name pl) Q E s:=by
 obtain ⟨hp,g,dr,t,os⟩:=s
 have L0:=I.type (M:=model prog w)
 have L1:=looks_findIn (M:=model prog w) X G.find
 have L2:=looks_findIn (M:=model prog w) X G.hook
 have L3:=looks_findIn (M:=model prog w) X hf
 have L4:=looks_typeIn (M:=model prog w) X ht
 have hx:=I.at_
 have hd:hp.get? d=some od:=by have:=I.dict;rw [hdx] at this;exact this
 unfold getMethod specialOf
 refine wpAny_bind (wpAny_bind (L0.at (L1.at ?_)))
 dsimp only
 rw [hcan,if_neg Bool.false_ne_true]
 refine wpAny_bind (wpAny_bind (L0.at (L2.at ?_)))
 refine wpAny_bind (wpAny_bind (L0.at (L3.at (wpAny_bind (L4.at ?_)))))
 rw [hk,if_neg Bool.false_ne_true]
 dsimp only
 refine wpAny_bind (wpAny_loadPart hx ?_)
 rw [hdx]
 dsimp only
 have hn:∀ {Q:Option Value→Shared→Prop},Q none ⟨hp,g,dr,t,os⟩→wpAny (model prog w) A (nsGet d name) Q E ⟨hp,g,dr,t,os⟩:=fun {Q} q=>by
  unfold nsGet
  refine wpAny_bind (wpAny_loadPart hd ?_)
  rw [nsLook_of hl]
  exact wpAny_pure q
 refine wpAny_bind (hn ?_)
 rw [if_neg (by simp)]
 exact wpAny_bind (wpAny_rule (wpAny_pure h))
theorem di_kind:builtinKind "dict.items"=some .method:=by decide +kernel
theorem di_split:splitId "dict.items"=some ("dict","items"):=by decide +kernel
theorem di_args (a:Value):argsOk "dict.items" ⟨[a],[]⟩:=by unfold argsOk;kernel_rfl
theorem call_items {d:Addr} {ens des:Array DictEntry} {n dn:Nat} {fac:Value} {Q:Value→Shared→Prop} (X:(fragK w).In s.heap) (hx:(x == sysModules)=false)
  (hg:s.heap.get? x=some (fddOf d ens n fac)) (hd:s.heap.get? d=some { cls:=.type "dict",data:=.dict des dn })
  (hQ:Q (.ref s.heap.objs.size) { s with heap:=s.heap.push { cls:=.type "dict_items",data:=.fields #[.ref x] } }):wpAny (model prog w) A (call (.builtin "dict.items") [.ref x]) Q E s:=by
 obtain ⟨hh,g,dr,tk,os⟩:=s
 dsimp only at X hg hd hQ
 have In:=fddInst hg hd
 have L0:=In.type (M:=model Mine.prog w)
 have L1:Looks (model Mine.prog w) hh (isInstance (.ref x) (.type "dict")) true:=L0.andThen (looks_subIn X (by kernel_rfl))
 have L2:Looks (model Mine.prog w) hh (isInstance (.ref x) (.type "collections.OrderedDict")) false:=L0.andThen (looks_subIn X (by kernel_rfl))
 refine wpAny_call (codeAny_call_builtin F.slot_dict_items.plain F.entry_dict_items (@check_meth (model prog w) _ _ _ "dict.items" "dict" "items" (.ref x) [] [] _ di_kind di_split L1 (di_args _) ?_))
 unfold Builtin.«dict.items» Builtin.Dict.noArgs
 have hno:∀ {A:Around} {E:Value→Shared→Prop} {Q:Unit→Shared→Prop},Q () ⟨hh,g,dr,tk,os⟩→wpAny (model prog w) A (Builtin.Dict.notOrdered "items" ⟨[.ref x],[]⟩) Q E ⟨hh,g,dr,tk,os⟩:=fun {A E Q} q=>by
  unfold Builtin.Dict.notOrdered
  rw [if_pos (by decide)]
  refine wpAny_bind (L0.at ?_)
  rw [if_pos (by decide)]
  refine wpAny_bind (L2.at ?_)
  rw [if_neg Bool.false_ne_true]
  exact wpAny_pure q
 refine wpAny_bind (wpAny_bind (hno ?_))
 repeat lk
 rw [if_neg (by rw [hx];decide)]
 refine wpAny_pure ?_
 exact wpAny_bind (wpAny_newObj_type (wpAny_pure hQ))
theorem iter_items {v d:Addr} {ens:Array DictEntry} {ep:Nat} {o:Obj} {Q:Value→Shared→Prop} (hv:s.heap.IsItemsView v d) (ho:s.heap.get? d=some o) (hdat:o.data=.dict ens ep)
  (hQ:Q (.ref s.heap.objs.size) { s with heap:=s.heap.push { cls:=.type "dict_itemiterator",data:=.fields #[.none,.bool false,.ref d,.int 0 0,.int ens.size 0,.int ep 0,.none,.none] } }) :
  wpAny (model prog w) A (pyIter (.ref v)) Q E s:=by
 refine xEAA (id hv) fun ov hov hcv hdv=>?_
 refine wpAny_pyIter_slot hv.typeIs F.slot_dict_items_iter (wpAny_call_entry F.slot_dict_items_iter hv.typeIs F.entry_dict_items_iter ?_ (F.args_dict_items_iter_1 _))
 unfold Builtin.«dict_items.__iter__»
 refine wpAny_bind (wpAny_pure ?_)
 refine wpAny_bind ?_
 unfold Builtin.Dict_items.dictOf
 refine wpAny_bind (wpAny_field hov hdv (x:=.ref d) rfl (wpAny_pure ?_))
 refine wpAny_bind ?_
 unfold Builtin.Dict_items.newIterator
 refine wpAny_bind (wpAny_dictEntries ho hdat ?_)
 refine wpAny_bind (wpAny_dictEpoch ho hdat ?_)
 have hown:Builtin.Dict_items.ownsTuple "dict_itemiterator"=true:=by decide
 simp only [hown,if_true]
 refine wpAny_newObj_type (wpAny_pure ⟨_,rfl,"dict_itemiterator",_,⟨_,Heap.get?_push_size _ rfl,rfl⟩,F.slot_dict_itemiterator_next.lookup,?_⟩)
  (by simp only [sizeOk,Builtin.Dict_items.ownedTupleFields,List.size_toArray,List.length_append,List.length_cons,List.length_nil,sizeLine_eq];exact Nat.le_add_left _ _)
 assumption
theorem next_items {it d:Addr} {i ep:Nat} {ens:Array DictEntry} {od:Obj} {en:DictEntry} {ok ov:Value} {Q:Option Value→Shared→Prop} (hit:IsItemIter s.heap it d i ens.size ep ok ov)
  (hod:s.heap.get? d=some od) (hdd:od.data=.dict ens ep) (hx:ens[i]?=some en)
  (hQ:∀ h',IsItemIterOut h' it d (i + 1) ens.size ep en.key en.val s.heap.objs.size →
   h'.get? s.heap.objs.size=some { cls:=.type "tuple",data:=.seq #[en.key,en.val] }→h'.objs.size=s.heap.objs.size + 1 →
   (∀ b o,b≠it→s.heap.get? b=some o→h'.get? b=some o)→Q (some (.ref s.heap.objs.size)) { s with heap:=h' }) :
  wpAny (model prog w) A (pyNext (.ref it)) Q E s:=by
 obtain ⟨hp,g,dr,tk,os⟩:=s
 have hT:Shared.TypeIs ⟨hp,g,dr,tk,os⟩ (.ref it) "dict_itemiterator":=⟨_,hit,rfl⟩
 unfold pyNext
 refine wpAny_bind (wpAny_attempt (wpAny_callSpecial?_slot (name:=Str.ofString "__next__") hT F.slot_dict_itemiterator_next
  (wpAny_call_entry F.slot_dict_itemiterator_next hT F.entry_dict_itemiterator_next ?_ (F.args_dict_itemiterator_next_1 _))))
 refine wpAny_bind (wpAny_pure ?_)
 refine wpAny_bind ?_
 refine wpAny_bind ?_
 first | refine wpAny_bind (wpAny_typeNameOfWhole_itemiter hT (wpAny_pure ?_)) | refine wpAny_bind (wpAny_typeNameOf_itemiter hT (wpAny_pure ?_))
 refine wpAny_bind (wpAny_fieldsOf hit rfl ?_)
 have hown:Builtin.Dict_items.ownsTuple "dict_itemiterator"=true:=by decide
 rw [if_pos hown]
 show wpAny _ _ (if (Value.ref d == Value.none)=true then _ else _) _ _ _
 rw [if_neg (show ¬ ((Value.ref d == Value.none)=true) from Bool.false_ne_true)]
 refine wpAny_bind (wpAny_pure ?_)
 refine wpAny_bind (wpAny_dictEntries hod hdd ?_)
 rw [if_neg (by simp)]
 refine wpAny_bind (wpAny_pure ?_)
 refine wpAny_bind (wpAny_dictEpoch hod hdd ?_)
 rw [if_neg (by simp)]
 refine wpAny_pure ?_
 refine xE (Array.getElem?_eq_some_iff.mp hx) fun hlt hen=>?_
 simp only [show ¬ ((i:Int) < 0) from by omega,if_false,Int.toNat_natCast,hx]
 refine wpAny_bind ?_
 first | refine wpAny_bind (wpAny_typeNameOfWhole_itemiter hT (wpAny_pure ?_)) | refine wpAny_bind (wpAny_typeNameOf_itemiter hT (wpAny_pure ?_))
 refine wpAny_bind (wpAny_isOneOf_itemiter hT ?_)
 show wpAny _ _ (setField (.ref it) 3 (rawInt ((i:Int) + 1)) >>= _) _ _ ⟨hp,g,dr,tk,os⟩
 refine wpAny_bind (wpAny_setField_rec hit (by exact Nat.le_add_left _ _) fun h₁ he₁ hs₁=>?_)
 replace hs₁:Heap.SameBut it hp h₁:=hs₁
 replace he₁:IsItemIter h₁ it d (i + 1) ens.size ep ok ov:=by
  have e:((i + 1:Nat):Int)=(i:Int) + 1:=by exact Int.natCast_succ _
  unfold IsItemIter;rw [e];assumption
 have hT₁:Shared.TypeIs ⟨h₁,g,dr,tk,os⟩ (.ref it) "dict_itemiterator":=⟨_,he₁,rfl⟩
 refine wpAny_bind (wpAny_holding ?_)
 refine wpAny_bind (wpAny_isOneOf_itemiter hT₁ ?_)
 refine wpAny_bind (wpAny_isOneOf_itemiter hT₁ ?_)
 show wpAny _ _ (Builtin.Dict_items.pairFromOwner (.ref it) 6 en.key en.val) _ _ ⟨h₁,g,dr,tk,os⟩
 unfold Builtin.Dict_items.pairFromOwner
 refine wpAny_bind (wpAny_newTuple ?_)
 have he₂:IsItemIter (h₁.push { cls:=.type "tuple",data:=.seq #[en.key,en.val] }) it d (i + 1) ens.size ep ok ov:=Heap.get?_push_of_some _ he₁
 generalize hh₂:h₁.push { cls:=.type "tuple",data:=.seq #[en.key,en.val] }=h₂ at he₂
 have hz₁:h₁.objs.size=hp.objs.size:=hs₁.1
 have hil:it < hp.objs.size:=Heap.lt_size hit
 have ht₂:h₂.get? hp.objs.size=some { cls:=.type "tuple",data:=.seq #[en.key,en.val] }:=by rw [← hh₂,← hz₁];exact Heap.get?_push_size _ rfl
 have hz₂:h₂.objs.size=hp.objs.size + 1:=by rw [← hh₂,Heap.size_push,hz₁]
 have hk₂:∀ b o,b≠it→hp.get? b=some o→h₂.get? b=some o:=fun b o hb e=>by rw [← hh₂];exact Heap.get?_push_of_some _ (hs₁.extBut b o hb e)
 show wpAny _ _ (Builtin.Dict_items.ownedTupleIsFree (.ref it) >>= _) _ _ ⟨h₂,g,dr,tk,os⟩
 rw [hz₁]
 clear hh₂ he₁ hs₁ hT₁ hz₁ h₁
 refine wpAny_bind ?_
 unfold Builtin.Dict_items.ownedTupleIsFree
 refine wpAny_bind (wpAny_field he₂ rfl (x:=.none) rfl (wpAny_pure ?_))
 simp only [if_true]
 refine wpAny_bind (wpAny_field he₂ rfl (x:=ok) rfl ?_)
 refine wpAny_bind (wpAny_field he₂ rfl (x:=ov) rfl ?_)
 refine wpAny_bind (wpAny_setField_rec he₂ (by exact Nat.le_succ _) fun h₃ he₃ hs₃=>?_)
 replace hs₃:Heap.SameBut it h₂ h₃:=hs₃
 replace he₃:IsItemIter h₃ it d (i + 1) ens.size ep en.key ov:=he₃
 refine wpAny_bind (wpAny_setField_rec he₃ (by exact Nat.lt_succ_self _) fun h₄ he₄ hs₄=>?_)
 replace hs₄:Heap.SameBut it h₃ h₄:=hs₄
 replace he₄:IsItemIter h₄ it d (i + 1) ens.size ep en.key en.val:=he₄
 refine wpAny_bind (wpAny_setField_rec he₄ (by exact Nat.succ_pos _) fun h₅ he₅ hs₅=>?_)
 replace hs₅:Heap.SameBut it h₄ h₅:=hs₅
 replace he₅:IsItemIterOut h₅ it d (i + 1) ens.size ep en.key en.val hp.objs.size:=he₅
 refine wpAny_bind (wpAny_setField_rec he₅ (by exact Nat.le_add_left _ _) fun h₆ he₆ hs₆=>?_)
 replace hs₆:Heap.SameBut it h₅ h₆:=hs₆
 replace he₆:IsItemIterOut h₆ it d (i + 1) ens.size ep en.key en.val hp.objs.size:=he₆
 refine wpAny_bind (wpAny_letGo (wpAny_pure (wpAny_pure ⟨_,rfl,wpAny_pure (hQ h₆ he₆ ?_ ?_ ?_)⟩)))
 ·exact hs₆.extBut _ _ (Nat.ne_of_gt hil) (hs₅.extBut _ _ (Nat.ne_of_gt hil) (hs₄.extBut _ _ (Nat.ne_of_gt hil) (hs₃.extBut _ _ (Nat.ne_of_gt hil) ht₂)))
 ·show h₆.objs.size=hp.objs.size + 1
  rw [hs₆.1,hs₅.1,hs₄.1,hs₃.1,hz₂]
 ·exact fun b o hb e=>hs₆.extBut b o hb (hs₅.extBut b o hb (hs₄.extBut b o hb (hs₃.extBut b o hb (hk₂ b o hb e))))
end
section
variable {A:Around} {E:Value→Shared→Prop} {s:Shared}
theorem end_items {it d:Addr} {i ep:Nat} {ens:Array DictEntry} {od:Obj} {ok ov:Value} {Q:Option Value→Shared→Prop} (hh:A.handled=none) (hit:IsItemIter s.heap it d i ens.size ep ok ov)
  (hod:s.heap.get? d=some od) (hdd:od.data=.dict ens ep) (hx:ens.size≤i)
  (hQ:∀ h',Heap.ExtBut it s.heap h'→Q none { s with heap:=h' }):wpAny (model prog w) A (pyNext (.ref it)) Q E s:=by
 have hT:s.TypeIs (.ref it) "dict_itemiterator":=⟨_,hit,rfl⟩
 unfold pyNext
 refine wpAny_bind (wpAny_attempt (wpAny_callSpecial?_slot (name:=Str.ofString "__next__") hT F.slot_dict_itemiterator_next
  (wpAny_call_entry F.slot_dict_itemiterator_next hT F.entry_dict_itemiterator_next ?_ (F.args_dict_itemiterator_next_1 _))))
 refine wpAny_bind (wpAny_pure ?_)
 refine wpAny_bind ?_
 refine wpAny_bind ?_
 first | refine wpAny_bind (wpAny_typeNameOfWhole_itemiter hT (wpAny_pure ?_)) | refine wpAny_bind (wpAny_typeNameOf_itemiter hT (wpAny_pure ?_))
 refine wpAny_bind (wpAny_fieldsOf hit rfl ?_)
 have hown:Builtin.Dict_items.ownsTuple "dict_itemiterator"=true:=by decide
 rw [if_pos hown]
 show wpAny _ _ (if (Value.ref d == Value.none)=true then _ else _) _ _ s
 rw [if_neg (show ¬ ((Value.ref d == Value.none)=true) from Bool.false_ne_true)]
 refine wpAny_bind (wpAny_pure ?_)
 refine wpAny_bind (wpAny_dictEntries hod hdd ?_)
 rw [if_neg (by simp)]
 refine wpAny_bind (wpAny_pure ?_)
 refine wpAny_bind (wpAny_dictEpoch hod hdd ?_)
 rw [if_neg (by simp)]
 refine wpAny_pure ?_
 simp only [show ¬ ((i:Int) < 0) from by omega,if_false,Int.toNat_natCast,Array.getElem?_eq_none hx]
 refine wpAny_bind ?_
 first | refine wpAny_bind (wpAny_typeNameOfWhole_itemiter hT (wpAny_pure ?_)) | refine wpAny_bind (wpAny_typeNameOf_itemiter hT (wpAny_pure ?_))
 show wpAny _ _ (setField (.ref it) 2 .none >>= _) _ _ s
 refine wpAny_bind (wpAny_setField hit rfl (by exact Nat.le_add_left _ _) ?_)
 show wpAny _ _ (newExc (.type "StopIteration") [] >>= _) _ _ _
 refine wpAny_bind ?_
 simp only [newExc,newTuple]
 refine wpAny_bind (wpAny_newObj_type ?_ (by size_fits))
 refine wpAny_bind (m:=firstArgMember _ _) (wpAny_of_eq (a:=Value.none) (by first | rfl | (simp only [firstArgMember];rfl)) ?_)
 refine wpAny_newObj_type ?_ (by size_fits)
 simp only [raiseNew]
 refine wpAny_bind (wpAny_handled ?_)
 rw [show A.in1.handled=none from hh]
 refine wpAny_bind (wpAny_pure (wpAny_throw ?_))
 refine wpAny_bind (wpAny_isInstance (T:="StopIteration") (b:=true) ⟨_,Heap.get?_push_size _ rfl,rfl⟩ isSubtype_stop ?_)
 exact wpAny_pure (hQ _ (((Heap.SameBut.update ..).extBut.push _).push _))
end
theorem entry_item_iter:entryFor table "dict_itemiterator.__iter__"=some Builtin.«dict_keyiterator.__iter__» :=
 entryFor_alias (id':="dict_keyiterator.__iter__") (by kernel_rfl) rfl (by decide +kernel) (by kernel_rfl)
theorem self_items {A:Around} {E:Value→Shared→Prop} {s:Shared} {it d:Addr} {i n ep:Nat} {ok ov:Value} {Q:Value→Shared→Prop} (hit:IsItemIter s.heap it d i n ep ok ov) (h:Q (.ref it) s):wpAny (model prog w) A (pyIter (.ref it)) Q E s:=by
 have hT:s.TypeIs (.ref it) "dict_itemiterator":=⟨_,hit,rfl⟩
 refine wpAny_pyIter_slot hT F.slot_dict_itemiterator_iter (wpAny_call_entry F.slot_dict_itemiterator_iter hT entry_item_iter ?_ (F.args_dict_itemiterator_iter_1 _))
 show wpAny _ _ (ret (.ref it)) _ _ s
 exact wpAny_pure ⟨_,rfl,"dict_itemiterator",_,hT,F.slot_dict_itemiterator_next.lookup,h⟩
theorem KeyIs.rv {μ:Mu} {h:Heap} {k:V} {mv:Value} {hs:Int} (H:KeyIs w k mv hs):RV cPair μ h k mv:=by
 cases k with
 | str x=>refine xA H fun z'1 _=>?_;refine xE z'1 fun t q'2=>?_;subst q'2;exact .str _ _
 | int i=>refine xA H fun z'1 _=>?_;refine xE z'1 fun t q'2=>?_;subst q'2;exact .int _ _
 | _=>exact H.elim
noncomputable def itemsOf (es:List (V × V)):List V:=es.map fun p=>.tup2 p.1 p.2
theorem Wk.items {n:Nat} {nodes:Bool} {es:List (V × V)} {x d I:Addr}:Wk w ad false (itemsOf es) (fun st=>∃ fr,st[n]?=some (.fdd nodes es fr)) I
  (fun i μ h=>μ[n]?=some (x,d)∧∃ ok ov,IsItemIter h I x i es.length es.length ok ov)
  (fun i mv μ h=>μ[n]?=some (x,d)∧∃ ok ov a,mv=.ref a∧IsItemIterOut h I x i es.length es.length ok ov a) where
 up:=fun i μ more h h' ⟨e,ok,ov,q⟩ k=>⟨by rw [List.getElem?_append_left (List.getElem?_eq_some_iff.mp e).1];exact e,ok,ov,k _ q⟩
 loose:=fun i μ h ⟨_,ok,ov,q⟩ b hb o' e=>by
  rw [List.mem_singleton.mp hb,q] at e;obtain rfl:=Option.some.inj e
  exact notFixed rfl (by decide)
 midLoose:=fun i mv μ h ⟨_,ok,ov,a,_,q⟩ b hb o' e=>by
  rw [List.mem_singleton.mp hb,q] at e;obtain rfl:=Option.some.inj e
  exact notFixed rfl (by decide)
 item:=fun i v A E s μ st Q hh hv S ok hit hI hn k=>by
  refine xE ok fun fr hs=>?_
  refine xA hit fun hm r'1=>?_;refine xEE r'1 fun ok ov hit=>?_
  refine S.fddOn hs hm fun _ ens ep fac dn des hg he hn0 _ hd _=>?_
  have hep:=hn0.2
  have hsz:es.length=ens.size:=by have:=he.length;simpa using this
  subst hep
  simp only [itemsOf,List.getElem?_map] at hv
  refine xEA (Option.map_eq_some_iff.mp hv) fun p hp q'1=>?_;subst q'1
  refine xEAA (he.get i hp) fun en hen hk rv=>?_
  rw [hsz] at hit
  refine next_items hit hg rfl (by simpa using hen) fun h' ho ht hz hkeep=>?_
  have C:Heap.ExtBut I s.heap h':=fun b o hb e=>hkeep b o hb e
  have zz:s.heap.objs.size≤h'.objs.size:=by omega
  have lI:Loose s.heap [I]:=fun b hb o' e=>by
   rw [List.mem_singleton.mp hb,hit] at e;cases e
   exact notFixed rfl (by decide)
  have T:Step ad.tabs [I] μ s.heap μ h':=.but zz C
  refine k _ h' s.toks C zz ⟨hm,en.key,en.val,_,rfl,by rw [hsz];exact ho⟩ (.tup2 ht hk.rv (rv.up S T lI))
 done:=fun A E s μ st Q hh S ok hit hI k=>by
  refine xE ok fun fr hs=>?_
  refine xA hit fun hm r'1=>?_;refine xEE r'1 fun ok ov hit=>?_
  refine S.fddOn hs hm fun _ ens ep fac dn des hg he hn0 _ hd _=>?_
  have hep:=hn0.2
  have hsz:es.length=ens.size:=by have:=he.length;simpa using this
  subst hep
  have hl:(itemsOf es).length=ens.size:=by simp [itemsOf,hsz]
  rw [hl,hsz] at hit
  exact wpAny_sized (end_items hh hit hg rfl (Nat.le_refl _) fun h' C hz=>k h' s.toks C hz)
 go:=fun elts k pos A E s μ i mv Q ⟨hm,ok,ov,a,e,hit⟩ hQ=>by
  subst e
  exact wpAny_letOwnedTupleGo_items hit fun h' hit' C=>hQ h' C.extBut (by rw [C.1];exact Nat.le_refl _) ⟨hm,ok,ov,hit'⟩
 nd:=fun i μ h o' ⟨_,ok,ov,q⟩ e es n q'=>by
  rw [q] at e;cases e
  cases q'
 named:=fun q=>nomatch q
 self:=fun A E s μ i Q ⟨_,ok,ov,hit⟩ hQ=>self_items hit hQ
theorem fro_look {μ:Mu} {h:Heap} {fr:Option Nat} {des:Array DictEntry} {dn:Nat} (H:FroIs w μ h fr des) {name:Str} (hn:(("_frozen":Str) == name)=false):lookIn name ({ cls:=.type "dict",data:=.dict des dn }:Obj)=some none:=by
 cases fr with
 | none=>cases H;rfl
 | some k =>
  refine xEEEE H fun t fl o pm r'1=>?_;refine xEEEEA r'1 fun c x y ct q'2 _=>?_;subst q'2
  unfold lookIn
  have e:∀ {hs:Int} {v:Value},List.find? (fun d:DictEntry=>d.key.isStr name) [⟨hs,.str ("_frozen":Str) t,v⟩]=none:=fun {hs v}=>by
   rw [List.find?_cons,List.find?_nil]
   have:(Value.str ("_frozen":Str) t).isStr name=false:=hn
   simp only [this]
  dsimp only
  rw [e]
  rfl
theorem TM.fdd {n:Nat} {nodes:Bool} {es:List (V × V)} {fr:Option Nat} {name:Str} {f tf:Value} (hs:st[n]?=some (.fdd nodes es fr)) (hn:(("_frozen":Str) == name)=false)
  (hf:findIn (fragK w) (.ref 108) name=some (some f)) (ht:typeIn (fragK w) f=some tf) (hk:(tf != .type "function" && tf != .type "method_descriptor" && tf != .type "wrapper_descriptor")=false) :
  TM w ad r st name (.ref n) f [.ref n]:=by
 intro A E s μ x pl Q hA S hx k
 refine hx.ref_ fun a d hm=>?_
 refine S.fddOn hs hm fun _ ens ep fac dn des hg he _ _ hd hfr=>?_
 exact own_method ownFdd (by decide +kernel) S.base.frag (fddInst hg hd) hf ht hk rfl (fro_look hfr hn) (k s.toks _ (.cons (.ref hm) .nil))
theorem TX.items {n:Nat} {nodes:Bool} {es:List (V × V)} {fr:Option Nat} {o:Expr} {apos pos:Pos} (T0:TE w ad r env loc st o (.ref n) st₁) (hs:st₁[n]?=some (.fdd nodes es fr))
  (hE:∃ pl,eval (.Call (.Attribute o ("items":Str) apos) [] [] pos) env=(do
   let ov ← eval o env
   standAt apos.atName
   let (f,first) ← holding [ov] (getMethod ov ("items":Str) pl)
   callWith pos f first (backTo pos (starEach [] env)) (backToKw pos (keywordEach [] env))):=by exact ⟨_,by with_unfolding_all rfl⟩) :
  TX w ad r env loc st (.Call (.Attribute o ("items":Str) apos) [] [] pos) (itemsOf es) (fun st=>∃ fr,st[n]?=some (.fdd nodes es fr)) st₁ false:=by
 intro A E s μ Q hA S F h
 refine xE hE fun pl hE=>?_
 refine methodCall_KW (pl:=pl) ?_ hE
 refine T0 A E s μ _ hA S F fun mv h₁ tk₁ μ₁ t₁ S₁ F₁ r₁=>?_
 refine TM.fdd (f:=.builtin "dict.items") (tf:=.type "method_descriptor") hs (by decide) (by kernel_rfl) (by kernel_rfl) (by decide) A E _ μ₁ mv pl _ hA S₁ r₁ fun tk₁ xs rxs=>?_
 refine rxs.e1 fun _ rx=>?_
 show wpAny _ _ (callWith pos (.builtin "dict.items") [_] (backTo pos (starEach [] env)) []) _ _ _
 refine callWith_of (P:=fun h=>(fragK w).In h) rfl (fun h X=>Keeps1.builtin h X) (evalArgs_nil3 ⟨S₁.base.frag,?_⟩)
 rw [List.append_nil]
 refine rx.ref_ fun a d hm=>?_
 refine S₁.fddOn hs hm fun _ ens ep fac dn des hg he hn0 _ hd hfr=>?_
 have hep:=hn0.2
 have hsz:es.length=ens.size:=by have:=he.length;simpa using this
 subst hep
 refine call_items S₁.base.frag (S₁.notSys hm) hg hd ?_
 dsimp only
 have g2:(h₁.push { cls:=.type "dict_items",data:=.fields #[.ref a] }).get? a=some (fddOf d ens ens.size fac):=Heap.get?_push_of_some _ hg
 refine iter_items (d:=a) (ens:=ens) (ep:=ens.size) ⟨_,Heap.get?_push_size _ rfl,rfl,rfl⟩ g2 rfl ?_
 dsimp only
 generalize hO:({ cls:=.type "dict_items",data:=.fields #[.ref a] }:Obj)=o1
 generalize hO2:({ cls:=.type "dict_itemiterator",data:=.fields #[.none,.bool false,.ref a,.int 0 0,.int ens.size 0,.int ens.size 0,.none,.none] }:Obj)=o2
 have T2:Step ad.tabs [] μ₁ h₁ μ₁ ((h₁.push o1).push o2):=(Step.push _).trans0 (.push _)
 have S2:=(S₁.push o1).push o2
 have z1:h₁.objs.size≤(h₁.push o1).objs.size:=by rw [Heap.size_push];exact Nat.le_succ _
 refine h (h₁.push o1).objs.size _ _ μ₁ _ _ (t₁.trans0 T2) S2 (Wk.items (n:=n) (nodes:=nodes) (es:=es) (x:=a) (d:=d)) ⟨hm,.none,.none,?_⟩ (Nat.le_trans t₁.size z1) (fun q=>absurd (muts_lt S₁ q) (Nat.not_lt.mpr z1)) (by rw [Heap.size_push (h₁.push o1)];exact Nat.lt_succ_self _)
 subst hO2
 rw [hsz]
 exact Heap.get?_push_size _ rfl
noncomputable def SetTop (w:World) (ad:Adr) (nm:Str) (S:Int→Bool):Prop:=∃ a n,ad.mg nm=some (.ref a)∧a∉ad.tabs∧ad.hb.SetOf (intKind prog w) a S n
noncomputable def DictTop (w:World) (ad:Adr) (nm:Str) (look:Int→Option Str):Prop :=
 ∃ a f,ad.mg nm=some (.ref a)∧a∉ad.tabs∧(a == sysModules)=false∧ad.hb.MapOf (intKind prog w) a f∧∀ k,match look k with | some x=>∃ t,f k=some (.str x t) | none=>f k=none
theorem Base.setOf {h:Heap} (B:Base w ad h) {a:Addr} {S:Int→Bool} {n:Nat} (ha:a∉ad.tabs) (H:ad.hb.SetOf (intKind prog w) a S n):h.SetOf (intKind prog w) a S n:=by
 refine xEEEEA H fun o es ep t e q=>?_
 exact ⟨o,es,ep,t,B.keep _ _ ha e,q⟩
theorem Base.mapOf {h:Heap} (B:Base w ad h) {a:Addr} {f:Int→Option Value} (ha:a∉ad.tabs) (H:ad.hb.MapOf (intKind prog w) a f):h.MapOf (intKind prog w) a f:=by
 refine xEEEA H fun o es ep e q=>?_
 exact ⟨o,es,ep,B.keep _ _ ha e,q⟩
theorem TO2.inSet {a:Addr} {S:Int→Bool} {n:Nat} {k:Int} (ha:a∉ad.tabs) (H:ad.hb.SetOf (intKind prog w) a S n):TO2 w ad r st (compareOp .In) (.int k) (.lit (.ref a)) (.bool (S k)) st:=by
 intro A E s μ x y Q hA S' rx ry h
 cases rx;obtain rfl:=ry.litE
 refine wpAny_inSet_of (knd:=intKind prog w) (k:=k) (by simp [intKind,Value.isInt]) rfl (S'.base.setOf ha H) ?_
 exact h _ _ _ μ .refl S' (.bool _)
theorem TM.dictTop {a:Addr} {f:Int→Option Value} (ha:a∉ad.tabs) (H:ad.hb.MapOf (intKind prog w) a f):TM w ad r st ("get":Str) (.lit (.ref a)) (.builtin "dict.get") [.lit (.ref a)]:=by
 intro A E s μ x pl Q hA S hx k
 obtain rfl:=hx.litE
 have hm:=S.base.mapOf ha H
 exact getMethod_builtin hm.typeIs F.plainAttrs_dict F.slot_dict_get F.type_dict_get hm.noDict (k s.toks _ (.cons (.lit _) .nil))
theorem TO.dictGet {a:Addr} {f:Int→Option Value} {look:Int→Option Str} {k:Int} (ha:a∉ad.tabs) (hs:(a == sysModules)=false) (H:ad.hb.MapOf (intKind prog w) a f) (hl:∀ k,match look k with | some x=>∃ t,f k=some (.str x t) | none=>f k=none) :
  TO w ad r st (fun xs=>call (.builtin "dict.get") xs) [.lit (.ref a),.int k] (match look k with | some x=>.str x | none=>.none) st:=by
 intro A E s μ xs Q hA S hx h
 refine hx.e2 fun _ _ hx hy=>?_
 cases hx;refine xE hy.intE fun _ q'1=>?_;subst q'1
 rename_i t
 have hm:=S.base.mapOf ha H
 refine call_meetsIn F.slot_dict_get hm.typeIs F.entry_dict_get (F.args_dict_get_2 _ _) (meets_dict_get (intKind prog w) (k:=k) (key:=.int k t) a (by simp [intKind,Value.isInt]) hs) ⟨f,hm,?_⟩
 have hk:=hl k
 cases hlk:look k with
 | some x =>
  rw [hlk] at hk h
  refine xE hk fun t' e=>?_
  rw [e]
  exact h _ _ _ μ .refl S (.str _ _)
 | none =>
  rw [hlk] at hk h
  rw [hk]
  exact h _ _ _ μ .refl S .none
inductive WhileR (test:Loc→St→Bool→St→Prop) (turn:Loc→St→Loc→St→Prop):Nat→Loc→St→Loc→St→Prop
 | stop {loc:Loc} {st st₁:St}:test loc st false st₁→WhileR test turn 0 loc st loc st₁
 | cons {n:Nat} {loc loc₁ loc₂:Loc} {st st₁ st₂ st₃:St}:test loc st true st₁→turn loc st₁ loc₁ st₂→WhileR test turn n loc₁ st₂ loc₂ st₃→WhileR test turn (n + 1) loc st loc₂ st₃
theorem TO2.refIsNot {n:Nat}:TO2 w ad r st (compareOp .IsNot) (.ref n) .none (.bool true) st:=by
 intro A E s μ x y Q hA S rx ry k
 cases rx;obtain rfl:=ry.noneE
 exact wpAny_isNot_other rfl (fun e=>nomatch e) (k _ _ s.toks μ .refl S (.bool true))
theorem Sim.tab {μ:Mu} {h h':Heap} (S:Sim w ad μ st h) (ht:ad.tabR≠100) {c P:Addr} {pos:Pos} {q:Str} (hx:(c,P,pos,q)∈ad.lams) (hz:h.objs.size≤h'.objs.size) (C:Heap.ExtBut P h h') {ps:Array Value} (hi:h'.IsCode c P ps) (hta:h'.TableAt c P ps) {ps₀ m:Array Value} (hta₀:h.TableAt c P ps₀) (hps:ps=ps₀++m)
  {c':Addr} (hc:codeAmong pos ps.toList=some (.ref c')) (hf:CodeFix h' c' q):Sim w ad μ st h'∧Step ad.tabs [] μ h μ h':=by
 have hP:P∈ad.tabs:=lams_tab hx
 have T:Step ad.tabs [] μ h μ h':=⟨⟨[],by simp,by simp⟩,hz,fun a o e _ _ hat=>.inl (C a o (fun q=>hat (q ▸ hP)) e)⟩
 have lP:Loose h [P]:=fun a ha o ho=>S.looseT a (by rw [List.mem_singleton.mp ha];exact hP) o ho
 have B:=S.base
 have offP:∀ {a:Addr},a∈muts μ→a≠P:=fun ha e=>absurd (B.tabs P hP).1 (Nat.not_lt.mpr (e ▸ S.high _ ha))
 refine ⟨⟨⟨B.facts,Nat.le_trans B.size hz,fun a o hat e=>C a o (fun q=>hat (q ▸ hP)) (B.keep a o hat e),fun a ha=>?_,fun x hx'=>?_⟩,S.len,fun n p ob hn ho=>?_,S.high,S.apart⟩,T⟩
 ·refine xAEEA (B.tabs a ha) fun lt vs more e f=>?_
  by_cases ea:a=P
  ·subst ea
   have e1:=hta₀.2
   rw [f] at e1
   cases e1
   exact ⟨lt,vs,more++m,e,by rw [hta.2,hps,Array.append_assoc]⟩
  ·exact ⟨lt,vs,more,e,C a _ ea f⟩
 ·by_cases ex:x.2.1=P
  ·have:x=(c,P,pos,q):=by
    simp only [Adr.lams,List.mem_cons,List.not_mem_nil,or_false] at hx hx'
    rcases hx with hx | hx <;> rcases hx' with rfl | rfl
    ·exact hx.symm
    ·cases hx;exact absurd ex.symm ht
    ·cases hx;exact absurd ex ht
    ·exact hx.symm
   subst this
   exact ⟨ps,hi,hta,.inr ⟨c',hc,hf⟩⟩
  ·exact (B.lams x hx').ext (X:=[P]) (fun b o hb e=>C b o (fun z=>hb (by rw [z];exact .head _)) e) lP (fun z=>ex (List.mem_singleton.mp z))
 ·exact (S.obj n p ob hn ho).up S T Loose.nil (fun o e=>C _ o (offP (mem_muts.mpr ⟨n,p,hn,.inl rfl⟩)) e) (fun o e=>C _ o (offP (mem_muts.mpr ⟨n,p,hn,.inr rfl⟩)) e)
theorem mkLam {A:Around} {E:Value→Shared→Prop} {s:Shared} {Q:Value→Shared→Prop} {μ:Mu} {params:Arguments} {body:Expr} {scope:Scope} {pos:Pos} {c P:Addr} {q:Str} {clos:List (Str × Addr)} (ht:ad.tabR≠100) (S:Sim w ad μ st s.heap) (hx:(c,P,pos,q)∈ad.lams)
  (hcode:env.code=.ref c) (hg:env.globals=mainGlobals) (hcl:closureFor scope env=pure clos) (hq:env.qual++"<lambda>"=q) (hdef:defaultsOf params env=([],[]))
  (h:∀ fl h' tk o pm ct c',Step ad.tabs [] μ s.heap μ h'→Sim w ad μ st h'→h'.get? fl=some o→o.cls=.type "function"→o.data=.func { name:="<lambda>",qualname:=q,params:=params,body:=.expr body,scope:=scope,globals:=mainGlobals,closure:=clos,defaults:=.none,kwdefaults:=.none,pyModule:=pm,code:=.ref c',closureTuple:=ct,builtins:=builtinsNs } →
   CodeFix h' c' q→s.heap.objs.size≤fl→(clos=[]→ct=.none)→Q (.ref fl) { s with heap:=h',toks:=tk }) :
  wpAny (model prog w) A (eval (.Lambda params body scope pos) env) Q E s:=by
 refine kla_eval hdef ?_
 rw [hq,makeFunction_eq]
 simp only [List.zip_nil_right,List.filterMap_nil,List.isEmpty_nil,if_true,pure_bind]
 unfold makeTail
 rw [hcl,hg]
 refine wpAny_bind (wpAny_pure ?_)
 have tail:∀ (s₁:Shared) (ctv:Value),Sim w ad μ st s₁.heap→Step ad.tabs [] μ s.heap μ s₁.heap→s₁.gens=s.gens→s₁.drawn=s.drawn→s₁.os=s.os→(clos=[]→ctv=.none) →
   wpAny (model prog w) A (do
    let code ← functionCode env pos pos.line "<lambda>" q params scope (.expr body)
    let b ← builtinsFor mainGlobals env.builtins
    let m ← nsGet mainGlobals "__name__"
    let d ← pure Value.none
    newObj (.type "function") (.func { name:="<lambda>",qualname:=q,params:=params,body:=.expr body,scope:=scope,globals:=mainGlobals,closure:=clos,defaults:=.none,kwdefaults:=.none,pyModule:=m.getD .none,doc:=d,annotations:=none,code:=code,closureTuple:=ctv,builtins:=b })) Q E s₁:=by
  intro s₁ ctv S₁ T₁ e1 e2 e3 ect
  obtain ⟨h₁,g₁,d₁,t₁,os₁⟩:=s₁
  dsimp only at S₁ T₁ e1 e2 e3
  subst e1 e2 e3
  have rest:∀ (h₂:Heap) (tk:Nat) (c':Addr),Sim w ad μ st h₂→Step ad.tabs [] μ h₁ μ h₂→CodeFix h₂ c' q →
    wpAny (model prog w) A (do
     let b ← builtinsFor mainGlobals env.builtins
     let m ← nsGet mainGlobals "__name__"
     let d ← pure Value.none
     newObj (.type "function") (.func { name:="<lambda>",qualname:=q,params:=params,body:=.expr body,scope:=scope,globals:=mainGlobals,closure:=clos,defaults:=.none,kwdefaults:=.none,pyModule:=m.getD .none,doc:=d,annotations:=none,code:=.ref c',closureTuple:=ctv,builtins:=b })) Q E ⟨h₂,s.gens,s.drawn,tk,s.os⟩:=by
   intro h₂ tk c' S₂ T₂ F₂
   refine xEEAAAAAA S₂.base.facts.bm fun bm o hb1 hb2 hb3 hb4 hb5 hb6 hb7=>?_
   refine wpAny_bind (wpAny_builtinsFor S₂.base.ns hb1 hb2 (S₂.base.keep _ _ hb7 hb3) hb4 hb5 hb6 ?_)
   refine wpAny_bind (wpAny_nsGet S₂.base.ns ?_)
   refine wpAny_bind (wpAny_pure ?_)
   refine wpAny_newObj_type ?_ (by size_fits)
   have T3:∀ o,Step ad.tabs [] μ h₂ μ (h₂.push o):=fun o=>.push o
   exact h _ _ _ _ _ _ c' ((T₁.trans0 T₂).trans0 (T3 _)) (S₂.push _) (Heap.get?_push_size _ rfl) rfl rfl (F₂.up S₂ (T3 _) Loose.nil) (Nat.le_trans T₁.size T₂.size) ect
  refine xEAA (S₁.base.lams _ hx) fun ps hi hta hc=>?_
  dsimp only at hi hta hc
  rcases hc with hc | ⟨c',hc,hf⟩
  ·refine wpAny_bind (wpAny_functionCodeX hcode hi hta hc fun c' h' tk hext hge hlt hi' hrec hta' hown=>?_)
   refine xEAAA hown fun P' _ _ z'1 _=>?_;refine xEEAAA z'1 fun oc vc e1 e2 e3 _=>?_
   have hf:CodeFix h' c' q:=by
    refine xEEEEAAA hrec fun c2 o2 vs2 t2 q1 q2 q3 q4=>?_
    cases q1
    rw [e1] at q2;obtain rfl:=Option.some.inj q2
    exact ⟨oc,vs2,t2,e1,e2,q3,q4⟩
   have htr:TriplesOk ps.toList:=by refine xEEEE hi fun _ _ _ _ r'1=>?_;refine xEEEE r'1 fun _ _ _ _ r'2=>?_;refine xEEAAAAAA r'2 fun _ _ _ _ _ _ _ _ r'3=>?_;refine xAAAA r'3 fun _ _ _ htr _=>?_;exact htr
   have hc':codeAmong pos (ps++#[rawInt pos.line,rawInt pos.col,Value.ref c']).toList=some (.ref c'):=by
    have hl:(ps++#[rawInt pos.line,rawInt pos.col,Value.ref c']).toList=ps.toList++[rawInt pos.line,rawInt pos.col,.ref c']:=by simp
    rw [hl];exact codeAmong_snoc _ htr hc
   refine xA (S₁.tab ht hx (Nat.le_of_lt (Nat.lt_of_le_of_lt hge hlt)) hext hi' hta' hta rfl hc' hf) fun S' T'=>?_
   exact rest h' tk c' S' T' hf
  ·refine wpAny_bind (wpAny_functionCode_hit hcode hi hc ?_)
   exact rest h₁ t₁ c' S₁ .refl hf
 cases clos with
 | nil =>
  simp only [List.isEmpty_nil,if_true]
  exact wpAny_bind (wpAny_pure (tail s .none S .refl rfl rfl rfl fun _=>rfl))
 | cons x y =>
  simp only [List.isEmpty_cons,Bool.false_eq_true,if_false]
  refine wpAny_bind (wpAny_newTextTuple ?_)
  exact tail _ _ (S.push _) (.push _) rfl rfl rfl (fun q=>nomatch q)
theorem RV.more {C:Addr} {μ:Mu} {h:Heap} {p:Addr × Addr} {v:V} {mv:Value} (q:RV C μ h v mv):RV C (μ++[p]) h v mv:=by
 induction q with
 | none=>exact .none
 | bool b=>exact .bool b
 | int i t=>exact .int i t
 | str x t=>exact .str x t
 | lit v=>exact .lit v
 | tup2 e _ _ ia ib=>exact .tup2 e ia ib
 | tup4 e _ _ _ _ ia ib ic id=>exact .tup4 e ia ib ic id
 | ref e=>exact .ref (by rw [List.getElem?_append_left (List.getElem?_eq_some_iff.mp e).1];exact e)
theorem at_more {μ:Mu} {p:Addr × Addr} {k:Nat} {q:Addr × Addr} (e:μ[k]?=some q):(μ++[p])[k]?=some q:=by rw [List.getElem?_append_left (List.getElem?_eq_some_iff.mp e).1];exact e
theorem FroIs.more {μ:Mu} {h:Heap} {p:Addr × Addr} {fr:Option Nat} {des:Array DictEntry} (hz:FroIs w μ h fr des):FroIs w (μ++[p]) h fr des:=by
 cases fr with
 | none=>exact hz
 | some k =>
  refine xEEEE hz fun t fl o pm r'1=>?_;refine xEEEEA r'1 fun c u y ct e1 r'2=>?_;refine xA r'2 fun e2 e3=>?_
  exact ⟨t,fl,o,pm,c,u,y,ct,e1,at_more e2,e3⟩
theorem ORel.more {μ:Mu} {h:Heap} {p q:Addr × Addr} {o:MObj} (R:ORel w ad μ h q o):ORel w ad (μ++[p]) h q o:=by
 cases o with
 | list l=>refine xAEEA R fun e2 mvs k hg hv=>?_;exact ⟨e2,mvs,k,hg,hv.imp fun a b q=>q.more⟩
 | fdd nodes es fr =>
  refine xAEEEAAAAEEA R fun e1 ens k fac hg he hn hf dn des hd hz=>?_
  exact ⟨e1,ens,k,fac,hg,he.imp fun a b q=>⟨q.1,q.2.more⟩,hn,hf,dn,des,hd,hz.more⟩
 | pair a b=>refine xAEEEEAAA R fun e1 x y k dn hg hd ra rb=>?_;exact ⟨e1,x,y,k,dn,hg,hd,ra.more,rb.more⟩
 | cel n=>refine xAEA R fun e2 q hq hg=>?_;exact ⟨e2,q,at_more hq,hg⟩
theorem Sim.adoptO {μ:Mu} {h:Heap} (S:Sim w ad μ st h) {D:Addr} {o:MObj} (hm:D∉muts μ) (h0:ad.n0≤D) (R:ORel w ad (μ++[(D,D)]) h (D,D) o):Sim w ad (μ++[(D,D)]) (st++[o]) h:=by
 have split:∀ k (x:Addr × Addr),(μ++[(D,D)])[k]?=some x→(k < μ.length∧μ[k]?=some x)∨(k=μ.length∧x=(D,D)):=fun k x e=>by
  by_cases hl:k < μ.length
  ·rw [List.getElem?_append_left hl] at e;exact .inl ⟨hl,e⟩
  ·have:k=μ.length:=by have:=(List.getElem?_eq_some_iff.mp e).1;simp at this;omega
   subst this
   rw [List.getElem?_append_right (Nat.le_refl _)] at e
   simp at e;exact .inr ⟨rfl,e.symm⟩
 have off:∀ {k:Nat} {q:Addr × Addr},μ[k]?=some q→q.1≠D∧q.2≠D:=fun {k q} e=>⟨fun z=>hm (mem_muts.mpr ⟨k,q,e,.inl z.symm⟩),fun z=>hm (mem_muts.mpr ⟨k,q,e,.inr z.symm⟩)⟩
 refine ⟨S.base,by simp [S.len],fun n q ob hn ho=>?_,fun a ha=>?_,fun i j q u hq hu hij=>?_⟩
 ·rcases split n q hn with ⟨hl,e⟩ | ⟨rfl,rfl⟩
  ·rw [List.getElem?_append_left (S.len ▸ hl)] at ho
   exact (S.obj n q ob e ho).more
  ·rw [S.len,List.getElem?_append_right (Nat.le_refl _)] at ho
   simp at ho
   subst ho
   exact R
 ·rcases mem_muts_append.mp ha with ha | ha
  ·exact S.high a ha
  ·simp [muts] at ha;subst ha;exact h0
 ·rcases split i q hq with ⟨li,ei⟩ | ⟨li,ei⟩ <;> rcases split j u hu with ⟨lj,ej⟩ | ⟨lj,ej⟩
  ·exact S.apart i j q u ei ej hij
  ·subst ej;have:=off ei;exact ⟨this.1,this.1,this.2,this.2⟩
  ·subst ei;have:=off ej;exact ⟨Ne.symm this.1,Ne.symm this.2,Ne.symm this.1,Ne.symm this.2⟩
  ·exact absurd (li.trans lj.symm) hij
theorem Sim.setFro {μ:Mu} {h h':Heap} (S:Sim w ad μ st h) {n k:Nat} {p:Addr × Addr} {nodes:Bool} {es:List (V × V)} {fr:Option Nat} {des:Array DictEntry} {dn:Nat} (hn:μ[n]?=some p) (hs:st[n]?=some (.fdd nodes es fr)) (C:Heap.SameBut p.2 h h')
  (hg:h'.get? p.2=some { cls:=.type "dict",data:=.dict des dn }) (hf:FroIs w μ h (some k) des):Sim w ad μ (st.set n (.fdd nodes es (some k))) h':=by
 have R:=S.obj n p _ hn hs
 refine xAEEEAAAAEEA (id R) fun e1 ens k0 fac hg0 he hnd hfac dn0 des0 hd0 hz0=>?_
 have la:Loose h [p.2]:=fun a ha o e=>by
  rw [List.mem_singleton.mp ha,hd0] at e;obtain rfl:=Option.some.inj e
  exact notFixed rfl (by decide)
 have T:Step ad.tabs [p.2] μ h μ h':=.same C
 have hp:p.2∈muts μ:=mem_muts.mpr ⟨n,p,hn,.inr rfl⟩
 refine ⟨S.base.same C (S.high _ hp) la,by simp [S.len],fun j q ob hj ho=>?_,S.high,S.apart⟩
 by_cases hjn:n=j
 ·subst hjn
  rw [hn] at hj;obtain rfl:=Option.some.inj hj
  rw [List.getElem?_set_self (List.getElem?_eq_some_iff.mp hs).1] at ho
  obtain rfl:=Option.some.inj ho
  exact ⟨e1,ens,k0,fac,(C.2 _ (Ne.symm e1)).trans hg0,he.imp fun a b r=>⟨r.1,r.2.up S T la⟩,hnd,hfac.up S T la,dn,des,hg,hf.up S T la⟩
 ·rw [List.getElem?_set_ne hjn] at ho
  have z:=S.apart n j p q hn hj hjn
  exact (S.obj j q ob hj ho).up S T la (fun o e=>(C.2 _ (Ne.symm z.2.2.1)).trans e) (fun o e=>(C.2 _ (Ne.symm z.2.2.2)).trans e)
noncomputable abbrev freezeFd:FuncData:=methOf 4 2 "freeze" "FreezableDefaultDict.freeze" .none .none (.str ("cpy313.importlib.metadata._collections":Str) 286) (.ref 104) .none [] none
theorem TC.freeze {n:Nat} {nodes:Bool} {es:List (V × V)} (ht:ad.tabR≠100) (hs:st[n]?=some (.fdd nodes es none)):TC w ad (r + 1) 105 st [.ref n] .none ((st++[MObj.cel n]).set n (.fdd nodes es (some st.length))):=by
 intro A E s μ xs Q hA S hx k
 refine hx.e1 fun _ hx=>?_
 refine hx.ref_ fun x d hm=>?_
 have X:=S.base.frag
 have hrec:s.heap.CodeRec (.ref 104) "FreezableDefaultDict.freeze":=codeRec_of X (by rfl)
 refine wpAny_call (codeAny_call_function (fd:=freezeFd) (body:=fBody (methAt 4 2)) hA.room (X 105 _ rfl) rfl rfl rfl rfl hrec ?_)
 rw [show bindArgs freezeFd ⟨[.ref x],[]⟩=pure [(("self":Str),.ref x)] from rfl]
 refine wpAny_pure (wpAny_newFunctionEnv_cells rfl ?_ fun env he s₁ X1=>?_)
 ·intro y hy
  simp at hy
  subst hy
  exact .inr ⟨rfl,rfl⟩
 subst he
 refine ⟨S.base.noLimit.keeps X1.toInCall.keep,codeAny_func ?_⟩
 refine xEE X1.toInCall.same fun h₁ tk₁ q'1=>?_;subst q'1
 have hkeep:=X1.toInCall.keep
 have hns:=X1.toInCall.ns
 have hsz:s.heap.objs.size≤h₁.objs.size:=Nat.le_of_lt (Heap.Ns.lt hns)
 have T1:Step ad.tabs [] μ s.heap μ h₁:=.grow hsz hkeep
 have S1:Sim w ad μ st h₁:=S.grow hsz hkeep
 have hcx:h₁.IsCell (s.heap.objs.size + 1) (some (.ref x)):=X1.cell ("self":Str) (s.heap.objs.size + 1) rfl
 have hcs:s.heap.objs.size + 1 < h₁.objs.size:=by refine xEA hcx fun o ho _=>?_;exact Heap.lt_size ho
 have hcm:s.heap.objs.size + 1∉muts μ:=fun q=>absurd (muts_lt S q) (Nat.not_lt.mpr (Nat.le_succ _))
 have hcn:ad.n0≤s.heap.objs.size + 1:=Nat.le_succ_of_le S.base.size
 obtain ⟨pos,pn,pa,hb⟩:∃ pos pn pa,fBody (methAt 4 2)=[.Assign [.Attribute (.Name ("self":Str) pn) ("_frozen":Str) pa] (.Lambda (lArgs lamF) (lBody lamF) (lScope lamF) (lPos lamF)) pos]:=⟨_,_,_,rfl⟩
 rw [hb]
 refine wpAny_execs_cons (plainObj_wpAny_Assign_Attribute ?_ rfl)
 refine mkLam (c:=104) (P:=100) (q:=qualF) (clos:=[(("self":Str),s.heap.objs.size + 1)]) ht S1 (.tail _ (.head _)) rfl rfl rfl (show ((("FreezableDefaultDict.freeze":Str)++(".<locals>.":Str))++("<lambda>":Str))=qualF from by decide) rfl fun fl h₂ tk₂ o pm ct c' T2 S2 ho hoc hod hcf hfl _=>?_
 have hcx2:h₂.IsCell (s.heap.objs.size + 1) (some (.ref x)):=Kept.cell (fun o e=>T2.keep _ o e (fun q=>nomatch q) hcm (fun q=>absurd (S.base.tabs _ q).1 (Nat.not_lt.mpr hcn))) hcx
 refine wpAny_Name (wpAny_loadName_cell (c:=s.heap.objs.size + 1) (v:=.ref x) rfl rfl rfl hcx2 ?_) (by decide)
 refine S2.fddOn hs hm fun hxd ens kk fac dn des hg he hnd hfac hd hfro=>?_
 subst hfro
 refine set_frozen S2.base.frag hg hd fun h₃ t tk₃ C3 hd3=>?_
 refine wpAny_execs_nil ?_
 have R:ORel w ad (μ++[(s.heap.objs.size + 1,s.heap.objs.size + 1)]) h₂ (s.heap.objs.size + 1,s.heap.objs.size + 1) (.cel n):=⟨rfl,(x,d),at_more hm,hcx2⟩
 have SA:=S2.adoptO hcm hcn R
 have hlen:n < st.length:=(List.getElem?_eq_some_iff.mp hs).1
 have hs':(st++[MObj.cel n])[n]?=some (.fdd nodes es none):=by rw [List.getElem?_append_left hlen];exact hs
 have hme:(μ++[(s.heap.objs.size + 1,s.heap.objs.size + 1)])[st.length]?=some (s.heap.objs.size + 1,s.heap.objs.size + 1):=by
  rw [List.getElem?_append_right (Nat.le_of_eq S.len),S.len,Nat.sub_self];rfl
 have SF:=SA.setFro (k:=st.length) (at_more hm) hs' C3 hd3 ⟨t,fl,o,pm,c',_,_,ct,rfl,hme,ho,hoc,hod,hcf⟩
 refine k _ h₃ tk₃ _ ⟨⟨[(s.heap.objs.size + 1,s.heap.objs.size + 1)],rfl,by simp⟩,Nat.le_trans (Nat.le_trans hsz T2.size) (by rw [C3.1];exact Nat.le_refl _),fun a o e hx hma hta=>?_⟩ SF .none
 have e1:=(T1.trans0 T2).keep a o e hx hma hta
 have had:a≠d:=fun q=>hma (mem_muts.mpr ⟨n,_,hm,.inr q⟩)
 rcases e1 with e1 | ⟨q,sl,e1⟩
 ·exact .inl ((C3.2 _ had).trans e1)
 ·exact .inr ⟨q,sl,(C3.2 _ had).trans e1⟩
theorem TFac.node (N:Names ad):TFac w ad (r + 5) st true (.ref (st.length + 2)) (newNode st):=by
 intro A E s μ fac Q hA S hf k
 unfold FacIs at hf
 rw [if_pos rfl] at hf
 subst hf
 exact TC.node N A E s μ [] Q hA S .nil k
theorem lamR_body:∃ p,lBody lamR=.List [] p:=⟨_,rfl⟩
theorem TFac.list:TFac w ad (r + 1) st false (.ref st.length) (st++[.list []]):=by
 intro A E s μ fac Q hA S hf k
 unfold FacIs at hf
 rw [if_neg Bool.false_ne_true] at hf
 refine xEEEEA hf fun fl o pm c q'1 r'2=>?_;try clear hf;subst q'1;refine xAAA r'2 fun ho hoc hod r'3=>?_;refine xEEEAAA r'3 fun oc vs t c1 c2 c3 c4=>?_
 refine wpAny_call (codeAny_call_lam (e:=lBody lamR) hA.room ho hod rfl rfl rfl ⟨c,oc,vs,t,rfl,c1,c3,c4⟩ ?_)
 rw [show bindArgs (lamFd lamR qualR [] .none (.ref c) pm) ⟨[],[]⟩=pure [] from rfl]
 refine wpAny_pure (wpAny_newFunctionEnv (by intro y hy;cases hy) (by intro y hy;exact memnil hy) (fun h₁ hn hsb=>?_) rfl)
 have keep:∀ b o,s.heap.get? b=some o→h₁.get? b=some o:=fun b o e=>(hsb.2 b (Nat.ne_of_lt (Heap.lt_size e))).trans (Heap.get?_push_of_some _ e)
 have sz:s.heap.objs.size≤h₁.objs.size:=by rw [hsb.1,Heap.size_push];exact Nat.le_succ _
 have S1:=S.grow sz keep
 have T1:Step ad.tabs [] μ s.heap μ h₁:=.grow sz keep
 refine ⟨S1.base.noLimit,codeAny_lam ?_⟩
 refine xE lamR_body fun p e=>?_
 rw [e,eval_List_]
 refine wpAny_bind (wpAny_standAt (wpAny_bind (spliced_nil ?_)))
 refine wpAny_newList ?_ (by decide)
 have PP:=S1.pushList (vs:=[]) (mvs:=[]) .nil
 exact k _ _ _ _ (T1.trans0 (.pushNew _)) PP (.ref (by rw [List.getElem?_append_right (Nat.le_of_eq S.len),S.len,Nat.sub_self];rfl))
theorem TE.fddLam (ht:ad.tabR≠100) {p pos:Pos} (hm:ad.mg ("FreezableDefaultDict":Str)=some (.ref 108)) (hk:env.kindOf ("FreezableDefaultDict":Str)=some .globalImplicit) (hcode:env.code=.ref ad.codeR) (hg:env.globals=mainGlobals) (hq:env.qual++"<lambda>"=qualR) :
  TE w ad r env loc st (.Call (.Name ("FreezableDefaultDict":Str) p) [.Lambda (lArgs lamR) (lBody lamR) (lScope lamR) (lPos lamR)] [] pos) (.ref st.length) (st++[.fdd false [] none]):=by
 intro A E s μ Q hA S F h
 rw [eval_Call_Name]
 refine wpAny_bind (TE.nameG (st:=st) (v:=.ref 108) hm hk (by decide) A E s μ _ hA S F fun mv h₁ tk₁ μ₁ t₁ S₁ F₁ r₁=>?_)
 obtain rfl:=r₁.litE
 rw [star_plain (by intro _ _ q;cases q)]
 refine callWith_of (P:=fun h=>(fragK w).In h) rfl (fun h X=>(Keeps1.of (by kernel_rfl):Keeps1 w (.ref 108)) h X) (evalArgs_plain ?_)
 show wpAny _ _ (spliced ((false,eval (.Lambda (lArgs lamR) (lBody lamR) (lScope lamR) (lPos lamR)) env) :: [])) _ _ _
 refine spliced_cons ?_
 refine mkLam (c:=ad.codeR) (P:=ad.tabR) (q:=qualR) (clos:=[]) ht S₁ (.head _) hcode hg rfl hq rfl fun fl h₂ tk₂ o pm ct c' T2 S2 ho hoc hod hcf hfl hct=>?_
 refine spliced_nil ⟨S2.base.frag,?_⟩
 refine fdd_call (nodes:=false) S2 ho hoc ?_ fun mv h₃ tk₃ μ₃ T3 S3 rv=>h mv h₃ tk₃ μ₃ ((t₁.trans0 T2).trans0 T3) S3 (F₁.up S₁ (T2.trans0 T3)) rv
 unfold FacIs
 rw [if_neg Bool.false_ne_true]
 rw [hct rfl] at hod
 exact ⟨fl,o,pm,c',rfl,ho,hoc,hod,hcf⟩
end Mine
namespace Mine
open PySem PySem.W
/-! tokens never shrink -/
noncomputable abbrev tq (s:Shared):Nat:=s.toks
theorem runs_tq {M:Model} {Γ:Ctx} {p:Pos} {t:Sem PySem.Fin} {fs:List PySem.Frame} {s s':Shared} {e:End} (h:Runs M Γ p t fs s e s'):tq s≤tq s':=by
 induction h <;> (try simp only [tq,Shared.setGen] at *) <;> omega
theorem returns_tq {M:Model} {Γ:Ctx} {p:Pos} {s s':Shared} {r:Result} (h:Returns M Γ p s r s'):tq s≤tq s':=runs_tq h
theorem wakes_tq {M:Model} {Γ:Ctx} {p:Pos} {g:Nat} {r:Resume} {s s':Shared} {res:GenResult} (h:Wakes M Γ p g r s res s'):tq s≤tq s':=by
 unfold Wakes at h
 split at h
 ·exact h.elim
 ·split at h
  ·refine xEEAAA h fun e₁ s₁ hr _ _ q'1=>?_;try clear h;subst q'1;exact (runs_tq hr:tq (s.setGen g .running)≤tq s₁)
  ·rw [h.2];exact Nat.le_refl _
  ·rw [h.2];exact Nat.le_refl _
 ·refine xEEAAA h fun e₁ s₁ hr _ _ q'1=>?_;try clear h;subst q'1;exact (runs_tq hr:tq (s.setGen g .running)≤tq s₁)
 ·rw [h.2];exact Nat.le_refl _
 ·rw [h.2];exact Nat.le_refl _
theorem wp_tq {α:Type} (M:Model) (Γ:Ctx) (n:Nat) (t:Sem α):∀ (Q:α→Pos→Shared→Prop) (E:Value→Pos→Shared→Prop) (p:Pos) (s:Shared),n≤tq s→Sem.wp M Γ t Q E p s →
  Sem.wp M Γ t (fun a p' s'=>n≤tq s'∧Q a p' s') (fun e p' s'=>n≤tq s'∧E e p' s') p s:=by
 induction t with
 | pure a=>intro Q E p s hn h;exact ⟨hn,h⟩
 | raise e=>intro Q E p s hn h;exact ⟨hn,h⟩
 | unsupported _=>intro Q E p s _ h;exact h
 | finish _=>intro Q E p s _ h;exact h
 | rule _ k ih=>intro Q E p s hn h;exact ih () Q E p s hn h
 | «at» p' k ih=>intro Q E p s hn h;exact ih () Q E p' s hn h
 | load a _ k ih=>intro Q E p s hn h;refine xEA h fun o ho h=>?_;exact ⟨o,ho,ih o Q E p s hn h⟩
 | update a _ f k ih=>intro Q E p s hn h;exact ⟨h.1,ih () Q E p _ hn h.2⟩
 | loadIfAlive a k ih=>intro Q E p s hn h;exact ih _ Q E p s hn h
 | point _ k ih=>intro Q E p s hn h;exact ih () Q E p s hn h
 | register _ _=>intro Q E p s _ h;exact h
 | alloc o k ih=>intro Q E p s hn h;exact ih _ Q E p _ hn h
 | fresh k ih=>intro Q E p s hn h;exact ih _ Q E p _ (Nat.le_succ_of_le hn) h
 | ask k ih=>intro Q E p s hn h;exact ih _ Q E p s hn h
 | choose src m k ih=>intro Q E p s hn h;exact ⟨h.1,ih _ Q E p _ hn h.2⟩
 | os q _ k ih=>intro Q E p s hn h;exact ih _ Q E p _ hn h
 | call c hd _ _ k ih=>intro Q E p s hn h;refine xEEA h fun r s' hr h=>?_;exact ⟨r,s',hr,ih r Q E p s' (Nat.le_trans hn (returns_tq hr)) h⟩
 | handled own k ih=>intro Q E p s hn h;exact ih _ Q E p s hn h
 | genState g k ih=>intro Q E p s hn h;refine xEA h fun st hs h=>?_;exact ⟨st,hs,ih _ Q E p s hn h⟩
 | newGen c k ih=>intro Q E p s hn h;exact ih _ Q E p _ hn h
 | resume g r _ k ih=>intro Q E p s hn h;refine xEEA h fun res s' hw h=>?_;exact ⟨res,s',hw,ih res Q E p s' (Nat.le_trans hn (wakes_tq hw)) h⟩
 | yield _ _ _ _=>intro Q E p s _ h;exact h
 | stack k ih=>intro Q E p s hn h;exact ih _ Q E p s hn h
 | fork _ _=>intro Q E p s _ h;exact h
 | thread k ih=>intro Q E p s hn h;exact ih _ Q E p s hn h
 | await _ _ _ _ _=>intro Q E p s _ h;exact h
section
variable {α:Type} {M:Model} {A:Around} {s:Shared}
theorem wpAny_toks {t:Sem α} {Q:α→Shared→Prop} {E:Value→Shared→Prop} (h:wpAny M A t (fun a s'=>s.toks≤s'.toks→Q a s') (fun e s'=>s.toks≤s'.toks→E e s') s):wpAny M A t Q E s:=by
 have z:wpAny M A t (fun a s'=>s.toks≤tq s'∧(s.toks≤s'.toks→Q a s')) (fun e s'=>s.toks≤tq s'∧(s.toks≤s'.toks→E e s')) s :=
  fun Γ p hΓ=>wp_tq M Γ s.toks t _ _ p s (Nat.le_refl _) (h Γ p hΓ)
 exact wpAny_mono z (fun _ _ x=>x.2 x.1) (fun _ _ x=>x.2 x.1)
end
end Mine
namespace Mine
open PySem PySem.W PySem.Calls PyProof.Rows PySem.Builtin
variable {w : World} {ad : Adr} {r : Nat} {st st₁ st₂ st₃ : St} {env : Env} {loc loc₁ loc₂ loc₃ : Loc}
theorem slot_map_next:Slot "map" "__next__" "map.__next__" :=
 .of (owner:="map") (n:="__next__") (by rw [typeLookup_type,builtinLookup_eq_fast];kernel_rfl) (by decide +kernel) (by decide +kernel) (by decide +kernel)
  (by first | exact .inl (by decide +kernel) | exact .inr (by decide +kernel)) (by rw [isSubtype_type];kernel_rfl)
theorem slot_map_iter:Slot "map" "__iter__" "map.__iter__" :=
 .of (owner:="map") (n:="__iter__") (by rw [typeLookup_type,builtinLookup_eq_fast];kernel_rfl) (by decide +kernel) (by decide +kernel) (by decide +kernel)
  (by first | exact .inl (by decide +kernel) | exact .inr (by decide +kernel)) (by rw [isSubtype_type];kernel_rfl)
theorem slot_map_init:Slot "map" "__init__" "object.__init__" :=
 .of (owner:="object") (n:="__init__") (by rw [typeLookup_type,builtinLookup_eq_fast];kernel_rfl) (by decide +kernel) (by decide +kernel) (by decide +kernel)
  (by first | exact .inl (by decide +kernel) | exact .inr (by decide +kernel)) (by rw [isSubtype_type];kernel_rfl)
theorem entry_map_next:entryFor table "map.__next__"=some Builtin.«map.__next__»:=entryFor_of_tree (by kernel_rfl)
theorem entry_map_new:entryFor table "map.__new__"=some Builtin.«map.__new__»:=entryFor_of_tree (by kernel_rfl)
theorem entry_map_iter:entryFor table "map.__iter__"=some Builtin.«dict_keyiterator.__iter__» :=
 entryFor_alias (id':="dict_keyiterator.__iter__") (by kernel_rfl) (by first | rfl | decide +kernel) (by decide +kernel) (by kernel_rfl)
theorem args_map_next (a:Value):argsOk "map.__next__" ⟨[a],[]⟩:=by unfold argsOk;kernel_rfl
theorem args_map_iter (a:Value):argsOk "map.__iter__" ⟨[a],[]⟩:=by unfold argsOk;kernel_rfl
theorem mro_map:mroOf (.type "map")=pure [.type "map",.type "object"]:=by rw [mroOf_type];kernel_rfl
theorem lookup_map_new:typeLookup (.type "map") "__new__"=pure (some (.builtin "map.__new__")):=by rw [typeLookup_type,builtinLookup_eq_fast];kernel_rfl
theorem called_map:TypeCalled "map" "map.__new__" "object.__init__" :=
 ⟨by decide +kernel,by decide +kernel,⟨_,_,mro_map⟩,madeBy_type mro_map lookup_map_new (by decide +kernel),by decide +kernel,by rw [isSubtype_type];kernel_rfl,slot_map_init⟩
theorem typeCall_map (a b:Value):checkTypeCall "map" ⟨[a,b],[]⟩=pure ():=by kernel_rfl
theorem newCall_map (a b:Value):checkBuiltinCall "map.__new__" ⟨[.type "map",a,b],[]⟩=pure ():=by kernel_rfl
theorem sub_map:isSubtype (.type "map") (.type "map")=pure true:=by rw [isSubtype_type];kernel_rfl
theorem nolen_map:typeLookup (.type "map") "__len__"=pure none:=by rw [typeLookup_type,builtinLookup_eq_fast];kernel_rfl
theorem nohint_map:typeLookup (.type "map") "__length_hint__"=pure none:=by rw [typeLookup_type,builtinLookup_eq_fast];kernel_rfl
noncomputable abbrev mapObj (T:Addr):Obj:={ cls:=.type "map",dict:=none,data:=.fields #[.ref T,.builtin "str.strip"],slots:=#[] }
noncomputable abbrev tup1 (it:Addr):Obj:={ cls:=.type "tuple",data:=.seq #[.ref it] }
section
variable {prog:Program} {A:Around} {E:Value→Shared→Prop} {s:Shared}
theorem meets_map_new (l:Addr):MeetsIn prog w (Builtin.«map.__new__» ⟨[.type "map",.builtin "str.strip",.ref l],[]⟩) (fun _ R s=>∃ items,s.heap.IsList l items ∧
  R (.ok (.ret (.ref (s.heap.objs.size + 2)))) { s with heap:=((s.heap.push { cls:=.type "list_iterator",data:=.fields #[.ref l,.int 0 0] }).push (tup1 s.heap.objs.size)).push (mapObj (s.heap.objs.size + 1)) }) :=
 .of_wp fun A R s ⟨items,hL,h⟩=>by
  unfold Builtin.«map.__new__»
  refine wpAny_bind ?_
  unfold Builtin.SmallTypes.newClass
  refine wpAny_bind (wpAny_of_eq (a:=true) (by kernel_rfl) ?_)
  rw [if_neg (by decide)]
  rw [sub_map]
  refine wpAny_bind (wpAny_pure ?_)
  rw [if_neg (by decide)]
  refine wpAny_pure ?_
  dsimp only
  refine wpAny_bind (m:=Builtin.SmallTypes.refuseKeywords _ _ _) (wpAny_pure ?_)
  rw [if_neg (by simp)]
  refine wpAny_bind ?_
  show wpAny _ _ (Builtin.SmallTypes.iterAll [.ref l]) _ _ s
  unfold Builtin.SmallTypes.iterAll
  refine wpAny_bind ?_
  simp only [List.forIn_cons,List.forIn_nil]
  refine wpAny_bind (wpAny_bind (wpAny_holding (wpAny_pyIter_list hL ?_)))
  refine wpAny_pure (wpAny_pure (wpAny_pure ?_))
  refine wpAny_bind (wpAny_newTuple ?_ (by exact Nat.succ_pos _))
  refine wpAny_bind ?_
  show wpAny _ _ (newObj (.type "map") (.fields #[_,.builtin "str.strip"])) _ _ _
  refine wpAny_newObj_type (wpAny_pure ⟨_,rfl,?_⟩)
  have e1:(s.heap.push { cls:=.type "list_iterator",data:=.fields #[.ref l,.int 0 0] }).objs.size=s.heap.objs.size + 1:=Heap.size_push ..
  have e2:((s.heap.push { cls:=.type "list_iterator",data:=.fields #[.ref l,.int 0 0] }).push (tup1 s.heap.objs.size)).objs.size=s.heap.objs.size + 2:=by rw [Heap.size_push,e1]
  rw [← e2,← e1] at h
  exact h
theorem call_map {l:Addr} {items:Array Value} {Q:Value→Shared→Prop} (hL:s.heap.IsList l items)
  (h:Q (.ref (s.heap.objs.size + 2)) { s with heap:=((s.heap.push { cls:=.type "list_iterator",data:=.fields #[.ref l,.int 0 0] }).push (tup1 s.heap.objs.size)).push (mapObj (s.heap.objs.size + 1)) }) :
  wpAny (model prog w) A (call (.type "map") [.builtin "str.strip",.ref l]) Q E s:=by
 have e:((s.heap.push { cls:=.type "list_iterator",data:=.fields #[.ref l,.int 0 0] }).push (tup1 s.heap.objs.size)).objs.size=s.heap.objs.size + 2:=by rw [Heap.size_push,Heap.size_push]
 refine callType_newIn called_map (by decide) (typeCall_map _ _) (newCall_map _ _) (fun obj=>PySem.F.args_object_init_3 _ _ _) entry_map_new (meets_map_new l) ⟨items,hL,?_⟩
 refine ⟨⟨mapObj (s.heap.objs.size + 1),?_,rfl⟩,h⟩
 rw [← e];exact Heap.get?_push_size _ rfl
theorem walk_map {m T it l:Addr} {items:Array Value} (hh:A.handled=none) (h1:it≠m) (h2:it≠T) (h3:it≠l) (hs:∀ (i:Nat) (v:Value),items[i]?=some v→∃ x t,v=.str x t∧x.length≤sizeLine) :
  WalksS prog w A m [m,T,it,l] [it] Eq items.size (fun i v=>∃ x t u,items[i]?=some (.str x t)∧v=.str (Txt.strip x) u)
   (fun i s=>s.heap.get? m=some (mapObj T)∧s.heap.get? T=some (tup1 it)∧s.heap.IsListIter it l i∧s.heap.IsList l items) where
 sub:=fun b hb=>by simp at hb;subst hb;simp
 grefl:=fun _=>rfl
 gtrans:=fun _ _ _ a b=>a.trans b
 frame:=fun i s h' tk ⟨a,b,c,d⟩ _ k=>⟨k m (by exact .head _) _ a,k T (by exact .tail _ (.head _)) _ b,by refine xEA c fun o ho q=>?_;exact ⟨o,k it (by simp) _ ho,q⟩,by refine xEA d fun o ho q=>?_;exact ⟨o,k l (by simp) _ ho,q⟩⟩
 self:=fun i s Q E ⟨a,_⟩ hQ=>by
  have hT:s.TypeIs (.ref m) "map":=⟨_,a,rfl⟩
  refine wpAny_pyIter_slot hT slot_map_iter (wpAny_call_entry slot_map_iter hT entry_map_iter ?_ (args_map_iter _))
  show wpAny _ _ (ret (.ref m)) _ _ s
  exact wpAny_pure ⟨_,rfl,"map",_,hT,slot_map_next.lookup,hQ⟩
 item:=fun i s Q E hi ⟨a,b,c,d⟩ hQ=>by
  have hT:s.TypeIs (.ref m) "map":=⟨_,a,rfl⟩
  refine xEEA (hs i items[i] (by simp [hi])) fun x t hx hsz=>?_
  unfold pyNext
  refine wpAny_bind (wpAny_attempt (wpAny_callSpecial?_slot (name:=Str.ofString "__next__") hT slot_map_next
   (wpAny_call_entry slot_map_next hT entry_map_next ?_ (args_map_next _))))
  show wpAny _ _ (field (.ref m) 0 >>= _) _ _ s
  refine wpAny_bind (wpAny_field a rfl (x:=.ref T) rfl ?_)
  refine wpAny_bind (wpAny_seqItems b rfl ?_)
  refine wpAny_bind ?_
  simp only [← Array.forIn_toList,List.forIn_cons,List.forIn_nil]
  refine wpAny_bind (wpAny_bind (wpAny_holding (wpAny_nextOf_list_item c d (x:=items[i]) (by simp [hi]) fun h' c' C=>?_)))
  refine wpAny_pure (wpAny_pure ?_)
  have a':h'.get? m=some (mapObj T):=(C.2 _ (Ne.symm h1)).trans a
  refine wpAny_bind (wpAny_field a' rfl (x:=.builtin "str.strip") rfl ?_)
  show wpAny _ _ (holding [items[i]] (call (.builtin "str.strip") [items[i]]) >>= _) _ _ _
  rw [hx]
  refine wpAny_bind (wpAny_holding (wpAny_toks (SC.strip (fun t' k hk=>?_) hsz)))
  refine wpAny_bind (wpAny_letGo ?_)
  refine wpAny_pure ⟨_,rfl,?_⟩
  refine wpAny_pure (hQ _ _ ⟨x,t,t',by simp [hi,hx],rfl⟩ ⟨a',(C.2 _ (Ne.symm h2)).trans b,c',by refine xEA d fun o ho q=>?_;exact ⟨o,(C.2 _ (Ne.symm h3)).trans ho,q⟩⟩ ⟨fun b o hb e=>(C.2 b (by simpa using hb)).trans e,rfl,rfl,rfl,hk⟩)
 done:=fun s Q E ⟨a,b,c,d⟩ hQ=>by
  have hT:s.TypeIs (.ref m) "map":=⟨_,a,rfl⟩
  unfold pyNext
  refine wpAny_bind (wpAny_attempt (wpAny_callSpecial?_slot (name:=Str.ofString "__next__") hT slot_map_next
   (wpAny_call_entry slot_map_next hT entry_map_next ?_ (args_map_next _))))
  show wpAny _ _ (field (.ref m) 0 >>= _) _ _ s
  refine wpAny_bind (wpAny_field a rfl (x:=.ref T) rfl ?_)
  refine wpAny_bind (wpAny_seqItems b rfl ?_)
  refine wpAny_bind ?_
  simp only [← Array.forIn_toList,List.forIn_cons,List.forIn_nil]
  refine wpAny_bind (wpAny_bind (wpAny_holding (wpAny_nextOf_list_end hh c d (by simp) fun h' e C ⟨o,ho,hoc⟩=>?_)))
  refine wpAny_bind (wpAny_isInstance (T:="StopIteration") (b:=true) ⟨_,ho,hoc⟩ isSubtype_stop ?_)
  exact wpAny_pure (hQ _ ⟨fun b o hb e=>C b o (by simpa using hb) e,rfl,rfl,rfl,Nat.le_refl _⟩)
end
section
variable {prog:Program} {A:Around} {E:Value→Shared→Prop} {s:Shared}
theorem collect_map {I:Addr} {fp wr:List Addr} {G:Array GenState→Array GenState→Prop} {n:Nat} {P:Nat→Value→Prop} {St:Nat→Shared→Prop} {Q:List Value→Shared→Prop}
  (W:WalksS prog w A.in1 I fp wr G n P St) (hT:∀ i s,St i s→s.TypeIs (.ref I) "map") (hst:St 0 s) (hfp:∀ b∈fp,b < s.heap.objs.size) (hI:I∈fp)
  (hQ:∀ s' acc,Moved wr G s s'→ItemsOf P acc n→Q acc.toList s') (hn:n≤sizeLine):wpAny (model prog w) A (collect (.ref I)) Q E s:=by
 have hSf:s.heap.objs.size∉fp:=fun hm=>Nat.lt_irrefl _ (hfp _ hm)
 have hSI:s.heap.objs.size≠I:=fun e=>hSf (e ▸ hI)
 unfold collect
 refine wpAny_bind (wpAny_runValue (codeAny_builtin F.entry_proto_collect ?_))
 rw [Around.under_plainId F.plain_proto_collect _]
 show wpAny _ A.in1 (newList [] >>= fun l=>again (.builtin "list.__iadd__" ⟨[l,.ref I],[]⟩)) _ _ s
 refine wpAny_bind (wpAny_newObj_type ?_)
 refine wpAny_pure ⟨plainId_quiet F.plain_list_iadd _,codeAny_builtin F.entry_list_iadd ?_⟩
 rw [Around.under_plainId F.plain_list_iadd _]
 have hst₁:=W.frame 0 s (s.heap.push { cls:=.type "list",data:=.seq ([]:List Value).toArray }) s.toks hst (Nat.le_refl _) fun b _ o e=>Heap.get?_push_of_some _ e
 have hS₁:(s.heap.push { cls:=.type "list",data:=.seq ([]:List Value).toArray }).get? s.heap.objs.size=some { cls:=.type "list",data:=.seq ([]:List Value).toArray }:=Heap.get?_push_size _ rfl
 have h1:Builtin.List.listSameRef (.ref s.heap.objs.size) (.ref I)=false:=by simp [Builtin.List.listSameRef,hSI]
 show wpAny _ A.in1 (Builtin.List.listExtendWith (.ref s.heap.objs.size) (.ref I) (.ref s.heap.objs.size)) _ _ _
 unfold Builtin.List.listExtendWith
 refine wpAny_bind (wpAny_typeOf (hT 0 _ hst₁) ?_)
 rw [if_neg (by rw [h1];decide)]
 refine wpAny_bind (W.self 0 _ _ _ hst₁ ?_)
 refine wpAny_bind (wpAny_holding ?_)
 unfold Builtin.List.listLengthHint
 refine wpAny_bind (wpAny_specialOf (hT 0 _ hst₁) nolen_map ?_)
 show wpAny _ A.in1 (specialOf (Value.ref I) (Str.ofString "__length_hint__") >>= _) _ _ _
 refine wpAny_bind (wpAny_specialOf (hT 0 _ hst₁) nohint_map ?_)
 refine wpAny_pure ?_
 show wpAny _ A.in1 (rule "list.extend.makes-room" >>= fun _=>Builtin.List.listTouch (.ref s.heap.objs.size) >>= fun _ =>
  again (.builtin "list.extend.loop" ⟨[.ref s.heap.objs.size,.ref I,.ref s.heap.objs.size],[]⟩)) _ _ _
 refine wpAny_bind (wpAny_rule ?_)
 refine wpAny_bind ?_
 show wpAny _ A.in1 (updateSeq s.heap.objs.size (·.push .none) >>= fun _=>updateSeq s.heap.objs.size (·.pop)) _ _ _
 refine wpAny_bind (wpAny_updateSeq hS₁ rfl ?_)
 have hS₂:=Heap.get?_update_self (Obj.mapSeq (·.push Value.none)) hS₁ rfl
 refine wpAny_updateSeq hS₂ rfl ?_
 have hS₃:=Heap.get?_update_self (Obj.mapSeq (·.pop)) hS₂ rfl
 have oth:∀ b o,b≠s.heap.objs.size→(s.heap.push { cls:=.type "list",data:=.seq ([]:List Value).toArray }).get? b=some o →
   (((s.heap.push { cls:=.type "list",data:=.seq ([]:List Value).toArray }).update s.heap.objs.size (Obj.mapSeq (·.push Value.none))).update s.heap.objs.size (Obj.mapSeq (·.pop))).get? b=some o :=
  fun b o hb e=>(Heap.get?_update_other _ _ (Ne.symm hb)).trans ((Heap.get?_update_other _ _ (Ne.symm hb)).trans e)
 refine wpAny_pure ⟨plainId_quiet F.plain_extend_loop _,codeAny_extend_loopS W hn _ hSf _ n 0 _ _ _ rfl (Nat.zero_le _)
  (W.frame 0 ({ s with heap:=s.heap.push { cls:=.type "list",data:=.seq ([]:List Value).toArray } }:Shared) _ s.toks hst₁ (Nat.le_refl _) fun b hb o e=>oth b o (fun h=>hSf (h ▸ hb)) e) hS₃ (ItemsOf.nil P) fun s' acc' c' hm hS' hacc=>?_⟩
 show wpAny _ A (load s.heap.objs.size >>= _) _ _ s'
 refine wpAny_bind (wpAny_load hS' ?_)
 refine wpAny_pure (hQ s' acc' (Moved.drop_new (o:={ cls:=.type "list",data:=.seq ([]:List Value).toArray }) (tk:=s.toks) (Moved.trans W.gtrans ((Moved.refl W.grefl).then_heap (by first | exact Nat.le_refl _ | exact Nat.le_succ _ | omega) fun b o hb e=>?_) hm) (Nat.le_refl _)) hacc)
 exact oth b o (fun h=>hb (h ▸ List.mem_cons_self)) e
theorem star_map {l:Addr} {items:Array Value} {Q:List Value→Shared→Prop} (hh:A.handled=none) (hL:s.heap.IsList l items) (hs:∀ (i:Nat) (v:Value),items[i]?=some v→∃ x t,v=.str x t∧x.length≤sizeLine) (hn:items.size≤sizeLine)
  (h:∀ h' tk vs,(∀ b o,s.heap.get? b=some o→h'.get? b=some o)→vs.length=items.size→(∀ (i:Nat) (v:Value),vs[i]?=some v→∃ x t u,items[i]?=some (.str x t)∧v=.str (Txt.strip x) u)→Q vs { s with heap:=h',toks:=tk }) :
  wpAny (model prog w) A (call (.type "map") [.builtin "str.strip",.ref l]) (fun v s₁=>StarOf (model prog w) A E v Q s₁) E s:=by
 refine call_map hL ?_
 have hl:l < s.heap.objs.size:=by refine xEA hL fun o ho _=>?_;exact Heap.lt_size ho
 have e1:(s.heap.push { cls:=.type "list_iterator",data:=.fields #[.ref l,.int 0 0] }).objs.size=s.heap.objs.size + 1:=Heap.size_push ..
 have e2:((s.heap.push { cls:=.type "list_iterator",data:=.fields #[.ref l,.int 0 0] }).push (tup1 s.heap.objs.size)).objs.size=s.heap.objs.size + 2:=by rw [Heap.size_push,e1]
 have g0:∀ b o,s.heap.get? b=some o→(((s.heap.push { cls:=.type "list_iterator",data:=.fields #[.ref l,.int 0 0] }).push (tup1 s.heap.objs.size)).push (mapObj (s.heap.objs.size + 1))).get? b=some o:=fun b o e=>Heap.get?_push_of_some _ (Heap.get?_push_of_some _ (Heap.get?_push_of_some _ e))
 have gi:(((s.heap.push { cls:=.type "list_iterator",data:=.fields #[.ref l,.int 0 0] }).push (tup1 s.heap.objs.size)).push (mapObj (s.heap.objs.size + 1))).get? s.heap.objs.size=some { cls:=.type "list_iterator",data:=.fields #[.ref l,.int 0 0] }:=Heap.get?_push_of_some _ (Heap.get?_push_of_some _ (Heap.get?_push_size _ rfl))
 have gt:(((s.heap.push { cls:=.type "list_iterator",data:=.fields #[.ref l,.int 0 0] }).push (tup1 s.heap.objs.size)).push (mapObj (s.heap.objs.size + 1))).get? (s.heap.objs.size + 1)=some (tup1 s.heap.objs.size):=by
  have q:=Heap.get?_push_size (s.heap.push { cls:=.type "list_iterator",data:=.fields #[.ref l,.int 0 0] }) (o:=tup1 s.heap.objs.size) rfl
  rw [e1] at q
  exact Heap.get?_push_of_some _ q
 have gm:(((s.heap.push { cls:=.type "list_iterator",data:=.fields #[.ref l,.int 0 0] }).push (tup1 s.heap.objs.size)).push (mapObj (s.heap.objs.size + 1))).get? (s.heap.objs.size + 2)=some (mapObj (s.heap.objs.size + 1)):=by
  have q:=Heap.get?_push_size ((s.heap.push { cls:=.type "list_iterator",data:=.fields #[.ref l,.int 0 0] }).push (tup1 s.heap.objs.size)) (o:=mapObj (s.heap.objs.size + 1)) rfl
  rwa [e2] at q
 have ez:(((s.heap.push { cls:=.type "list_iterator",data:=.fields #[.ref l,.int 0 0] }).push (tup1 s.heap.objs.size)).push (mapObj (s.heap.objs.size + 1))).objs.size=s.heap.objs.size + 3:=by rw [Heap.size_push,e2]
 generalize ((s.heap.push { cls:=.type "list_iterator",data:=.fields #[.ref l,.int 0 0] }).push (tup1 s.heap.objs.size)).push (mapObj (s.heap.objs.size + 1))=h3 at g0 gi gt gm ez ⊢
 have hT:Shared.TypeIs { s with heap:=h3 } (.ref (s.heap.objs.size + 2)) "map":=⟨_,gm,rfl⟩
 unfold StarOf notIterableAtAll
 refine wpAny_bind (wpAny_specialOf hT slot_map_iter.lookup (wpAny_pure ⟨rfl,?_⟩))
 have W:=walk_map (prog:=prog) (w:=w) (A:=A.in1) (m:=s.heap.objs.size + 2) (T:=s.heap.objs.size + 1) (it:=s.heap.objs.size) (l:=l) (items:=items) hh (fun q=>absurd q (Nat.ne_of_lt (Nat.lt_add_of_pos_right (by decide)))) (fun q=>absurd q (Nat.ne_of_lt (Nat.lt_succ_self _))) (fun q=>absurd q (Nat.ne_of_gt hl)) hs
 refine collect_map W (fun i s ⟨a,_⟩=>⟨_,a,rfl⟩) ⟨gm,gt,⟨_,gi,rfl,rfl⟩,by refine xEA hL fun o ho q=>?_;exact ⟨o,g0 _ _ ho,q⟩⟩ ?_ (by exact .head _) (fun s' acc hm hacc=>?_) hn
 ·intro b hb
  simp only [List.mem_cons,List.not_mem_nil,or_false] at hb
  show b < h3.objs.size
  rw [ez]
  rcases hb with rfl | rfl | rfl | rfl
  ·exact Nat.lt_succ_self _
  ·exact Nat.lt_succ_of_lt (Nat.lt_succ_self _)
  ·exact Nat.lt_add_of_pos_right (by decide)
  ·exact Nat.lt_add_right 3 hl
 ·obtain ⟨h',g',d',t',o'⟩:=s'
  obtain ⟨m1,m2,m3,m4,m5⟩:=hm
  dsimp only at m1 m2 m3 m4 m5
  subst m2 m3 m4
  refine h h' t' _ (fun b o e=>m1 b o (by simp;intro q;subst q;exact absurd (Heap.lt_size e) (Nat.lt_irrefl _)) (g0 _ _ e)) ?_ ?_
  ·rw [Array.length_toList];exact hacc.1
  ·intro i v hv
   exact hacc.2 i v (by simpa using hv)
end
end Mine
namespace Mine
open PySem PySem.W PySem.Calls PyProof.Rows
open Sem (wp)
noncomputable def HCb (Γ:Ctx):Prop:=(Γ.below.map (·.1)).any Code.isCaller=true
theorem HCb.enter {Γ:Ctx} (h:HCb Γ) (c:Code) (hd:Option Value) (p:Pos):HCb (Γ.enter c hd p):=by
 show (((Γ.code,p) :: Γ.below).map (·.1)).any Code.isCaller=true
 rw [List.map_cons,List.any_cons]
 rw [show (Γ.below.map (·.1)).any Code.isCaller=true from h,Bool.or_true]
theorem HCb.goto {Γ:Ctx} (h:HCb Γ) (c:Code):HCb (Γ.goto c):=h
noncomputable def wpH {α:Type} (M:Model) (A:Around) (t:Sem α) (Q:α→Shared→Prop) (E:Value→Shared→Prop) (s:Shared):Prop :=
 ∀ Γ p,Γ.In A→HCb Γ→wp M Γ t (fun a _ s'=>Q a s') (fun e _ s'=>E e s') p s
noncomputable def codeH (M:Model) (A:Around) (c:Code) (R:Result→Shared→Prop) (s:Shared):Prop :=
 ∀ Γ p,Γ.code=c→Γ.Below A→HCb Γ→wpCode M Γ R p s
section
variable {α β:Type} {M:Model} {A:Around} {E:Value→Shared→Prop} {s:Shared}
theorem wpH_of {t:Sem α} {Q:α→Shared→Prop} (h:wpAny M A t Q E s):wpH M A t Q E s:=fun Γ p a _=>h Γ p a
theorem codeH_of {c:Code} {R:Result→Shared→Prop} (h:codeAny M A c R s):codeH M A c R s:=fun Γ p a b _=>h Γ p a b
theorem wpH_pure {a:α} {Q:α→Shared→Prop} (h:Q a s):wpH M A (pure a) Q E s:=fun _ _ _ _=>h
theorem wpH_mono {t:Sem α} {Q Q':α→Shared→Prop} {E':Value→Shared→Prop} (h:wpH M A t Q E s)
  (hQ:∀ a s,Q a s→Q' a s) (hE:∀ e s,E e s→E' e s):wpH M A t Q' E' s :=
 fun Γ p hΓ hc=>Sem.wp_mono M Γ t (fun a _ s=>hQ a s) (fun e _ s=>hE e s) p s (h Γ p hΓ hc)
theorem wpH_bind {m:Sem α} {f:α→Sem β} {Q:β→Shared→Prop} (h:wpH M A m (fun a s'=>wpH M A (f a) Q E s') E s) :
  wpH M A (m >>= f) Q E s:=fun Γ p hΓ hc=>by
 rw [Sem.wp_bind']
 exact Sem.wp_mono M Γ m (fun a p' s' h'=>h' Γ p' hΓ hc) (fun _ _ _ h'=>h') p s (h Γ p hΓ hc)
theorem wpH_onRaise {m:Sem α} {k:Value→Sem Unit} {Q:α→Shared→Prop}
  (h:wpH M A m Q (fun e s'=>wpH M A (k e) (fun _ s''=>E e s'') E s') s):wpH M A (m.onRaise k) Q E s:=fun Γ p hΓ hc=>by
 rw [Sem.wp_onRaise]
 exact Sem.wp_mono M Γ m (fun _ _ _ h'=>h') (fun e p' s' h'=>h' Γ p' hΓ hc) p s (h Γ p hΓ hc)
theorem wpH_attempt {m:Sem α} {Q:Except Value α→Shared→Prop} (h:wpH M A m (fun a=>Q (.ok a)) (fun e=>Q (.error e)) s) :
  wpH M A m.attempt Q E s:=fun Γ p hΓ hc=>by rw [Sem.wp_attempt];exact h Γ p hΓ hc
theorem wpH_holding {vs:List Value} {m:Sem α} {Q:α→Shared→Prop} (h:wpH M A m Q E s):wpH M A (holding vs m) Q E s :=
 fun Γ p hΓ hc=>by rw [Sem.wp_holding];exact h Γ p hΓ hc
theorem codeH_mono {c:Code} {R R':Result→Shared→Prop} (h:codeH M A c R s) (hR:∀ r s,R r s→R' r s):codeH M A c R' s :=
 fun Γ p hc hΓ hb=>wpCode_mono hR (h Γ p hc hΓ hb)
theorem wpH_run {c:Code} {h:Option Value} {Q:Flow→Shared→Prop}
  (hc:codeH M (A.mark h) c (fun r s'=>match r with | .ok f=>Q f s' | .error e=>E e s') s) (hnb:h≠some byPass:=by intro x;cases x) :
  wpH M A (run c h) Q E s :=
 fun Γ p hΓ hb=>by rw [Sem.wp_run];exact hc _ p rfl (hΓ.enter c h p hnb) (hb.enter c h p)
theorem wpH_runValue {c:Code} {Q:Value→Shared→Prop}
  (hc:codeH M A c (fun r s'=>match r with | .ok (.ret v)=>Q v s' | .ok _=>False | .error e=>E e s') s) :
  wpH M A (runValue c) Q E s:=fun Γ p hΓ hb=>by rw [Sem.wp_runValue];exact hc _ p rfl (hΓ.enter c none p (by intro x;exact nsome x)) (hb.enter c none p)
theorem wpH_call {f:Value} {pos:List Value} {kw:List (Str × Value)} {Q:Value→Shared→Prop}
  (hc:codeH M A (.call f ⟨pos,kw⟩) (fun r s'=>match r with | .ok (.ret v)=>Q v s' | .ok _=>False | .error e=>E e s') s) :
  wpH M A (call f pos kw) Q E s:=wpH_runValue hc
theorem codeH_of_tree {c:Code} {R:Result→Shared→Prop}
  (h:wpH M (A.under c) (M.den c) (fun fin s'=>match fin with | .done f=>R (.ok f) s' | .again c'=>c'.quiet=true∧codeH M A c' R s')
   (fun e s'=>R (.error e) s') s):codeH M A c R s:=fun Γ p hc hΓ hb=>by
 rw [wpCode_iff_wp,hc]
 refine Sem.wp_mono M Γ _ (fun fin p' s' h'=>?_) (fun _ _ _ h'=>h') p s (h Γ p (hc ▸ hΓ.in) hb)
 cases fin with
 | done f=>exact h'
 | again c'=>exact ⟨h'.1,h'.2 (Γ.goto c') p' rfl (hΓ.goto c') (hb.goto c')⟩
theorem wpH_of_eq {t:Sem α} {a:α} {Q:α→Shared→Prop} (e:t=pure a) (h:Q a s):wpH M A t Q E s:=wpH_of (wpAny_of_eq e h)
noncomputable abbrev Nev:Value→Shared→Prop:=fun _ _=>False
theorem wpH_nev {t:Sem α} {Q:α→Shared→Prop} (h:wpH M A t Q Nev s):wpH M A t Q E s:=wpH_mono h (fun _ _ x=>x) (fun _ _ x=>x.elim)
theorem wpH_standAt {pos:Pos} {Q:Unit→Shared→Prop} (h:Q () s):wpH M A (standAt pos) Q E s:=wpH_of (wpAny_standAt h)
end
section
variable {M:Model} {A:Around} {E:Value→Shared→Prop} {s:Shared} {env:Env}
theorem wpH_execs_cons {st rest} {Q:Flow→Shared→Prop}
  (h:wpH M A (exec st env) (fun f s'=>match f with | .next=>wpH M A (execs rest env) Q E s' | f=>Q f s') E s) :
  wpH M A (execs (st :: rest) env) Q E s:=by
 rw [execs_cons]
 refine wpH_bind (wpH_mono h (fun f s' h'=>?_) fun _ _ x=>x)
 cases f <;> first | exact h' | exact wpH_pure h'
theorem wpH_Assign_Name {x pos' value pos} {Q:Flow→Shared→Prop}
  (h:wpH M A (eval value env) (fun v s₁=>wpAny M A (storeName env x v) (fun _=>Q .next) E s₁) E s)
  (hs:swapsWith value (some (.Name x pos')) pos.line env=pure false:=by rfl) :
  wpH M A (exec (.Assign [.Name x pos'] value pos) env) Q E s:=fun Γ p hΓ hc=>by
 simp only [exec_Assign_Name env x pos' value pos hs,Sem.wp_bind',Sem.wp_cmd_standAt,Sem.wp_bindName,Sem.wp_pure']
 exact Sem.wp_mono M Γ _ (fun v _ s₁ h₁=>h₁ Γ _ hΓ) (fun _ _ _ h'=>h') _ _ (h Γ _ hΓ hc)
theorem wpH_Assign_Tuple {elts k tpos value pos} {Q:Flow→Shared→Prop}
  (h:wpH M A (eval value env) (fun v s₁=>wpAny M A (assign (.Tuple elts k tpos) env v) (fun _=>Q .next) E s₁) E s)
  (hs:swapsWithSole [.Tuple elts k tpos] value pos.line env=pure false:=by rfl)
  (hw:swappedStores [.Tuple elts k tpos] value env=pure none:=by rfl) :
  wpH M A (exec (.Assign [.Tuple elts k tpos] value pos) env) Q E s:=by
 rw [exec_Assign]
 refine wpH_bind (wpH_standAt ?_)
 rw [hs]
 refine wpH_bind (wpH_pure ?_)
 rw [if_neg (by decide)]
 refine wpH_bind (wpH_mono h (fun v s₁ h₁=>?_) fun _ _ x=>x)
 rw [hw]
 refine wpH_bind (wpH_pure (wpH_of ?_))
 show wpAny M A (do assignAll v [assign (.Tuple elts k tpos) env];pure .next) Q E s₁
 exact wpAny_bind (wpAny_mono h₁ (fun _ _ x=>wpAny_pure x) fun _ _ x=>x)
theorem wpH_Return_some {e pos} {Q:Flow→Shared→Prop} (h:wpH M A (eval e env) (fun v=>Q (.ret v)) E s) :
  wpH M A (exec (.Return (some e) pos) env) Q E s:=fun Γ p hΓ hc=>by
 simp only [exec_Return_some,Sem.wp_bind',Sem.wp_cmd_standAt,Sem.wp_pure'];exact h Γ _ hΓ hc
end
section
variable {prog:Program} {w:World} {A:Around} {E:Value→Shared→Prop} {R:Result→Shared→Prop} {s:Shared} {env:Env}
theorem wpH_run0 {c:Code} {Q:Flow→Shared→Prop}
  (hc:codeH (model prog w) A c (fun r s'=>match r with | .ok f=>Q f s' | .error _=>False) s) :
  wpH (model prog w) A (runOwn c env) Q E s:=by
 unfold runOwn
 exact wpH_onRaise (wpH_run (codeH_mono hc fun r s h=>by cases r <;> first | exact h | exact h.elim))
theorem wpH_While {test body orelse pos} {Q:Flow→Shared→Prop}
  (h:codeH (model prog w) A (.whileLoop test body orelse env) (fun r s'=>match r with | .ok f=>Q f s' | .error _=>False) s) :
  wpH (model prog w) A (exec (.While test body orelse pos) env) Q E s:=by
 rw [exec_While];exact wpH_bind (wpH_standAt (wpH_run0 h))
noncomputable def WhQ (X:(Flow→Shared→Prop)→Shared→Prop) (K:Shared→Prop) (R:Result→Shared→Prop) (b:Bool) (s:Shared):Prop:=match b with
 | true=>X (FlQ K R) s
 | false=>R (.ok .next) s
theorem whileH1 {test body env}
  (h:wpAny (model prog w) A (isTrue test env (eval test env)) (WhQ (fun P s=>wpH (model prog w) A (execs body env) P Nev s) (codeH (model prog w) A (.whileLoop test body [] env) R) R) Nev s) :
  codeH (model prog w) A (.whileLoop test body [] env) R s:=by
 refine codeH_of_tree ?_
 show wpH _ A ((whileTurn test body [] env).onRaise (fun x=>do noteFrame x env;theTreesLotGoes x)) _ _ s
 refine wpH_onRaise (wpH_nev ?_)
 unfold whileTurn
 refine wpH_bind (wpH_of (wpAny_mono h (fun b s₂ h₂=>?_) fun _ _ h'=>h'))
 cases b with
 | false =>
  rw [if_neg Bool.false_ne_true]
  exact wpH_of (wpAny_bind (wpAny_execs_nil (wpAny_pure h₂)))
 | true =>
  rw [if_pos rfl]
  refine wpH_bind (wpH_mono h₂ (fun f s₃ h₃=>?_) fun _ _ h'=>h')
  cases f with
  | next=>exact wpH_pure ⟨rfl,h₃⟩
  | cont=>exact wpH_pure ⟨rfl,h₃⟩
  | brk=>exact wpH_pure h₃
  | ret v=>exact wpH_pure h₃
theorem wpH_For {target iter body pos} {Q:Flow→Shared→Prop}
  (h:wpAny (model prog w) A (eval iter env) (fun x s₁=>wpAny (model prog w) A (pyIter x) (fun it s₂ =>
   codeH (model prog w) A (.forLoop target it body [] env) (fun r s'=>match r with | .ok f=>Q f s' | .error _=>False) s₂) E s₁) E s)
  (hs:∀ x,foldedSetIterable iter env x=pure x:=by intro _;rfl) :
  wpH (model prog w) A (exec (.For target iter body [] pos) env) Q E s:=by
 rw [exec_For]
 exact wpH_bind (wpH_standAt (wpH_bind (wpH_of (wpAny_mono h (fun x s₁ h₁=>wpH_bind (wpH_of_eq (hs x) (wpH_bind (wpH_standAt (wpH_bind (wpH_holding (wpH_of
  (wpAny_mono h₁ (fun it s₂ h₂=>wpH_run0 h₂) fun _ _ h'=>h')))))))) fun _ _ h'=>h'))))
theorem forLoopH1 {target:Expr} {it:Value} {body:List Stmt} {env:Env}
  (h:wpAny (model prog w) A (pyNext it) (TurnQ prog w A target it env (fun P s=>wpH (model prog w) A (execs body env) P Nev s) (codeH (model prog w) A (.forLoop target it body [] env) R) R) Nev s) :
  codeH (model prog w) A (.forLoop target it body [] env) R s:=by
 refine codeH_of_tree ?_
 show wpH _ _ ((forTurn target it body [] env).onRaise (fun x=>do noteFrame x env;theTreesLotGoes x)) _ _ s
 refine wpH_onRaise (wpH_nev ?_)
 unfold forTurn
 refine wpH_bind (wpH_standAt (wpH_bind (wpH_onRaise (wpH_nev (wpH_of (wpAny_mono h (fun r s₁ h₁=>?_) fun _ _ h'=>h'))))))
 cases r with
 | none=>exact wpH_pure ⟨rfl,codeH_of (codeAny_block (wpAny_execs_nil h₁))⟩
 | some v =>
  refine wpH_bind (wpH_of (wpAny_mono h₁ (fun _ s₁ h₁=>wpH_bind (wpH_of (wpAny_mono h₁ (fun _ s₂ h₂=>wpH_bind (wpH_mono h₂ (fun f s₃ h₃=>?_) fun _ _ h'=>h')) fun _ _ h'=>h'))) fun _ _ h'=>h'))
  cases f with
  | next=>exact wpH_pure ⟨rfl,h₃⟩
  | cont=>exact wpH_pure ⟨rfl,h₃⟩
  | brk=>exact wpH_pure h₃
  | ret v=>exact wpH_pure h₃
theorem wpH_Try_except {body orelse:List Stmt} {h₀:ExceptHandler} {hs:List ExceptHandler} {pos:Pos} {Q:Flow→Shared→Prop}
  (h:wpH (model prog w) A (execs body env) (fun f s₁=>match f with | .next=>wpAny (model prog w) A (execs orelse env) Q E s₁ | f=>Q f s₁)
   (fun e s₁=>wpAny (model prog w) A (noteFrame e env) (fun _ s₂=>wpAny (model prog w) A (setFlight e none) (fun _ s₃=>wpAny (model prog w) A (handleBy e env (h₀ :: hs)) Q E s₃) E s₂) E s₁) s) :
  wpH (model prog w) A (exec (.Try body (h₀ :: hs) orelse [] pos) env) Q E s:=by
 rw [arm_exec_Try]
 refine wpH_bind (wpH_standAt ?_)
 unfold tryStmt
 simp only [List.isEmpty_nil,if_true,List.isEmpty_cons,Bool.false_and,Bool.false_eq_true,if_false]
 refine wpH_bind (wpH_attempt (wpH_mono h (fun f s₁ h₁=>?_) fun e s₁ h₁=>?_))
 ·cases f <;> first | exact wpH_of h₁ | exact wpH_pure h₁
 ·exact wpH_of (wpAny_bind (wpAny_mono h₁ (fun _ _ h₂=>wpAny_bind h₂) fun _ _ x=>x))
theorem codeH_func {body env}
  (h:wpH (model prog w) (A.deeper env) (execs body env) (fun f s'=>R (.ok (.ret (match f with | .ret v=>v | _=>.none))) s')
   (fun e s'=>wpAny (model prog w) (A.deeper env) (leaving env e) (fun _ s''=>R (.error e) s'') (fun e' s''=>R (.error e') s'') s') s) :
  codeH (model prog w) A (.func body env) R s:=by
 refine codeH_of_tree ?_
 show wpH _ (A.deeper env) (do point;match ← (execs body env).onRaise (leaving env) with | .ret v=>ret v | _=>ret .none) _ _ s
 refine wpH_bind (wpH_of (wpAny_point (wpH_bind (wpH_onRaise (wpH_mono h (fun f s' h'=>?_) fun _ _ h'=>wpH_of h')))))
 cases f <;> exact wpH_pure h'
theorem codeH_call_function {a:Addr} {args:Args} {o:Obj} {fd:FuncData} {body:List Stmt} (hroom:A.depth < recursionLimit)
  (ho:s.heap.get? a=some o)
  (hd':o.data=.func fd) (hco:fd.scope.isCoroutine=false) (hgen:fd.scope.isGenerator=false) (hbody:fd.body=.stmts body) (hcd:s.heap.CodeRec fd.code fd.qualname)
  (h:wpAny (model prog w) A.in1 (bindArgs fd args) (fun binds s₁ =>
   wpAny (model prog w) A.in1 (newFunctionEnv fd.scope fd.globals fd.closure binds (fd.qualname++".<locals>.") (some a) fd.code none fd.builtins)
    (fun env s₂=>s₂.heap.NoLimit∧codeH (model prog w) A (.func body env) R s₂) (fun e s'=>R (.error e) s') s₁) (fun e s'=>R (.error e) s') s) :
  codeH (model prog w) A (.call (.ref a) args) R s:=by
 refine codeH_of_tree ?_
 show wpH _ A.in1 (callAny (.ref a) args) _ _ s
 simp only [callAny]
 refine wpH_bind (wpH_of (wpAny_load ho ?_))
 refine xEEEEAAA hcd fun c oc vs tq hc hoc hdc hq=>?_
 simp only [hd',callFunction,hco,hgen,hbody,hc]
 rw [hc] at h
 refine wpH_bind (m:=field (.ref c) 1) (wpH_of (wpAny_field hoc hdc hq (wpH_bind (wpH_pure ?_))))
 exact wpH_bind (wpH_of (wpAny_mono h (fun binds s₁ h₁=>wpH_bind (wpH_of (wpAny_mono h₁ (fun env s₂ h₂=>wpH_bind (wpH_of (wpAny_enterFrame h₂.1 hroom
  (wpH_pure (And.intro rfl h₂.2))))) fun _ _ h'=>h'))) fun _ _ h'=>h'))
end
section
variable {M:Model} {A:Around} {E:Value→Shared→Prop} {s:Shared} {pos:Pos} {f:Value} {first:List Value} {Q:Value→Shared→Prop}
theorem wpH_keep {α:Type} {vs:List Value} {m:Sem α} {Q:α→Shared→Prop} (h:wpH M A m Q E s):wpH M A (m.keep vs) Q E s :=
 fun Γ p hΓ hc=>by rw [Sem.wp_keep];exact h Γ p hΓ hc
theorem wpH_operate {vs:List Value} {m:Sem Value} (h:wpH M A m Q E s):wpH M A (operate vs m) Q E s :=
 fun Γ p hΓ hc=>by rw [Sem.wp_operate];exact h Γ p hΓ hc
theorem callWithH_of {P:Heap→Prop} {args:List (Bool × Sem Value)} {keywords:List (Option Str × Sem Value)}
  (hk:∀ h,P h→∃ k,(k=Keeper.frame∨k=Keeper.machine∨k=Keeper.boundFrame)∧Looks M h (keeperOf f) k)
  (h:wpAny M A (evalArgs f true args keywords) (fun a s₁=>P s₁.heap∧wpH M A (call f (first++a.pos) a.kw) Q E s₁) E s):wpH M A (callWith pos f first args keywords) Q E s:=by
 unfold callWith
 refine wpH_bind (wpH_holding (wpH_of (wpAny_mono h (fun a s₁ h₁=>wpH_bind (wpH_standAt ?_)) fun _ _ x=>x)))
 refine xEA (hk _ h₁.1) fun k hk' L=>?_
 cases hp:(args.any (·.1) || keywords.any (·.1.isNone)) <;> (
 refine wpH_bind (wpH_of (L.here ?_))
 have tail:∀ {t:Sem Value},wpH M A t Q E s₁→wpH M A (t >>= fun r=>holding [r] point >>= fun _=>pure r) Q E s₁ :=
  fun ht=>wpH_bind (wpH_mono ht (fun r s₂ hr=>wpH_of (wpAny_bind (wpAny_holding (wpAny_point (wpAny_pure hr))))) fun _ _ x=>x)
 have marked (mk:Value):wpH M A (callMarked mk f (first++a.pos) a.kw) Q E s₁:=by unfold callMarked;exact wpH_keep h₁.2
 have oper (vs:List Value):wpH M A (operate vs (call f (first++a.pos) a.kw)) Q E s₁:=wpH_operate h₁.2
 rcases hk' with rfl | rfl | rfl <;> dsimp only <;> first | exact tail h₁.2 | exact tail (marked _) | exact tail (oper _) | (split <;> first | exact tail h₁.2 | exact tail (marked _)))
end
end Mine
namespace Mine
open PySem PySem.W PySem.Calls PyProof.Rows
variable {w : World} {ad : Adr} {r : Nat} {st st₁ st₂ st₃ : St} {env : Env} {loc loc₁ loc₂ loc₃ : Loc}
noncomputable def FrL (ad:Adr) (μ:Mu) (h:Heap) (l:List Env):Prop :=
 ∀ e∈l,e.scope.kind≠.module∧∃ L,e.frame=some L∧ad.n0≤L∧L∉muts μ∧L∉ad.tabs∧∃ o es n,h.get? L=some o∧o.data=.dict es n
noncomputable def HOut (ad:Adr) (μ:Mu) (h:Heap) (A:Around):Prop:=∃ l,A.frames=some l∧FrL ad μ h l
noncomputable def HIn (ad:Adr) (μ:Mu) (h:Heap) (env:Env) (A:Around):Prop :=
 ∃ outer,A.frames=some (env :: outer)∧env.frame=some env.locals∧FrL ad μ h outer∧∀ e∈outer,∀ L,e.frame=some L→L∉own env
theorem FrL.up {X:List Addr} {μ μ':Mu} {h h':Heap} {l:List Env} (H:FrL ad μ h l) (T:Step ad.tabs X μ h μ' h') (hX:∀ e∈l,∀ L,e.frame=some L→L∉X):FrL ad μ' h' l:=fun e he=>by
 refine xAEAAAAEEEA (H e he) fun k L f n0 m t o es n ho hd=>?_
 refine xEA ((T.keep L o ho (hX e he L f) m t).data) fun o' ho' hd'=>?_
 exact ⟨k,L,f,n0,T.out (Heap.lt_size ho) m,t,o',es,n,ho',hd'.trans hd⟩
theorem HIn.up {μ μ':Mu} {h h':Heap} {A:Around} (H:HIn ad μ h env A) (_S:Sim w ad μ st h) (_F:Frame ad μ h env loc) (T:Step ad.tabs (own env) μ h μ' h'):HIn ad μ' h' env A:=by
 refine xEAAA H fun outer hl hf H hn=>?_
 exact ⟨outer,hl,hf,H.up T hn,hn⟩
theorem HIn.out {μ:Mu} {h:Heap} {A:Around} (H:HIn ad μ h env A) (F:Frame ad μ h env loc):HOut ad μ h A:=by
 refine xEAAA H fun outer hl hf H hn=>?_
 refine ⟨_,hl,fun e he=>?_⟩
 rcases List.mem_cons.mp he with rfl | he
 ·refine xEA F.ns fun m z'1 _=>?_;refine xEEEAA z'1 fun o es n ho hd _=>?_
  exact ⟨by rw [F.fn];exact (fun q=>nomatch q),_,hf,F.off.2.2,F.off.1,F.off.2.1,o,es,n,ho,hd⟩
 ·exact H e he
theorem HOut.deeper {μ:Mu} {h h₁:Heap} {A:Around} (H:HOut ad μ h A) (_S:Sim w ad μ st h) (T:Step ad.tabs [] μ h μ h₁) (hf:env.frame=some env.locals) (_e:h.objs.size=h.objs.size) (hn:∀ b∈own env,h.objs.size≤b):HIn ad μ h₁ env (A.deeper env):=by
 refine xEA H fun l hl H=>?_
 refine ⟨l,Around.frames_deeper hl,hf,H.up T (fun _ _ _ _ q=>nomatch q),fun e he L f q=>?_⟩
 refine xAEAAAAEEEA (H e he) fun _ L' f' _ _ _ o _ _ ho _=>?_
 rw [f] at f';obtain rfl:=Option.some.inj f'
 exact absurd (Heap.lt_size ho) (Nat.not_lt.mpr (hn _ q))
/-! the judgments of the calls that may meet a refusal -/
noncomputable def THE (w:World) (ad:Adr) (r:Nat) (env:Env) (loc:Loc) (st:St) (e:Expr) (v:V) (st':St):Prop :=
 ∀ (A:Around) (E:Value→Shared→Prop) (s:Shared) (μ:Mu) (Q:Value→Shared→Prop),AOk r A→HIn ad μ s.heap env A→Sim w ad μ st s.heap→Frame ad μ s.heap env loc →
  (∀ mv h' tk μ',Step ad.tabs [] μ s.heap μ' h'→Sim w ad μ' st' h'→Frame ad μ' h' env loc→RV cPair μ' h' v mv→Q mv { s with heap:=h',toks:=tk }) →
  wpH (model prog w) A (eval e env) Q E s
noncomputable def TCH (w:World) (ad:Adr) (r:Nat) (a:Addr) (st:St) (as:List V) (v:V) (st':St):Prop :=
 ∀ (A:Around) (E:Value→Shared→Prop) (s:Shared) (μ:Mu) (xs:List Value) (Q:Value→Shared→Prop),AOk r A→HOut ad μ s.heap A→Sim w ad μ st s.heap→All2 (RV cPair μ s.heap) as xs →
  (∀ mv h' tk μ',Step ad.tabs [] μ s.heap μ' h'→Sim w ad μ' st' h'→RV cPair μ' h' v mv→Q mv { s with heap:=h',toks:=tk }) →
  wpH (model prog w) A (call (.ref a) xs) Q E s
noncomputable def THS (w:World) (ad:Adr) (r:Nat) (env:Env) (loc:Loc) (st:St) (ss:List Stmt) (fl:Option V) (loc':Loc) (st':St):Prop :=
 ∀ (A:Around) (E:Value→Shared→Prop) (s:Shared) (μ:Mu) (Q:Flow→Shared→Prop),AOk r A→HIn ad μ s.heap env A→Sim w ad μ st s.heap→Frame ad μ s.heap env loc →
  (∀ f h' tk μ',Step ad.tabs (own env) μ s.heap μ' h'→Sim w ad μ' st' h'→Frame ad μ' h' env loc'→FlR μ' h' fl f→Q f { s with heap:=h',toks:=tk }) →
  wpH (model prog w) A (execs ss env) Q E s
noncomputable def THS1 (w:World) (ad:Adr) (r:Nat) (env:Env) (loc:Loc) (st:St) (t:Stmt) (fl:Option V) (loc':Loc) (st':St):Prop :=
 ∀ (A:Around) (E:Value→Shared→Prop) (s:Shared) (μ:Mu) (Q:Flow→Shared→Prop),AOk r A→HIn ad μ s.heap env A→Sim w ad μ st s.heap→Frame ad μ s.heap env loc →
  (∀ f h' tk μ',Step ad.tabs (own env) μ s.heap μ' h'→Sim w ad μ' st' h'→Frame ad μ' h' env loc'→FlR μ' h' fl f→Q f { s with heap:=h',toks:=tk }) →
  wpH (model prog w) A (exec t env) Q E s
noncomputable def THR (w:World) (ad:Adr) (r:Nat) (env:Env) (loc:Loc) (st:St) (ss:List Stmt) (v:V) (st':St):Prop:=∃ loc',THS w ad r env loc st ss (some v) loc' st'
noncomputable def THo (w:World) (ad:Adr) (r:Nat) (env:Env) (loc:Loc) (st:St) (ss:List Stmt) (v:V) (st':St):Prop:=∃ fl loc',THS w ad r env loc st ss fl loc' st'∧v=fl.getD .none
theorem TS1.h {t:Stmt} {fl:Option V} (T:TS1 w ad r env loc st t fl loc₁ st₁):THS1 w ad r env loc st t fl loc₁ st₁:=fun A E s μ Q hA _ S F h=>wpH_of (T A E s μ Q hA S F h)
theorem TS.h {t:List Stmt} {fl:Option V} (T:TS w ad r env loc st t fl loc₁ st₁):THS w ad r env loc st t fl loc₁ st₁:=fun A E s μ Q hA _ S F h=>wpH_of (T A E s μ Q hA S F h)
theorem TR.h {ss:List Stmt} {v:V} (R:TR w ad r env loc st ss v st₁):THR w ad r env loc st ss v st₁:=let ⟨l,R⟩:=R;⟨l,R.h⟩
theorem THR.o {ss:List Stmt} {v:V} (R:THR w ad r env loc st ss v st₁):THo w ad r env loc st ss v st₁:=let ⟨l,R⟩:=R;⟨some v,l,R,rfl⟩
theorem THS1.cons {t:Stmt} {rest:List Stmt} {fl:Option V} (T:THS1 w ad r env loc st t none loc₁ st₁) (R:THS w ad r env loc₁ st₁ rest fl loc₂ st₂):THS w ad r env loc st (t :: rest) fl loc₂ st₂:=by
 intro A E s μ Q hA HI S F h
 refine wpH_execs_cons (T A E s μ _ hA HI S F fun f h₁ tk₁ μ₁ t₁ S₁ F₁ hf=>?_)
 subst hf
 exact R A E _ μ₁ _ hA (HI.up S F t₁) S₁ F₁ fun f h₂ tk₂ μ₂ t₂ S₂ F₂ hf=>h f h₂ tk₂ μ₂ (t₁.trans0 t₂) S₂ F₂ hf
theorem THS.stop {t:Stmt} {rest:List Stmt} {v:V} (T:THS1 w ad r env loc st t (some v) loc₁ st₁):THS w ad r env loc st (t :: rest) (some v) loc₁ st₁:=by
 intro A E s μ Q hA HI S F h
 refine wpH_execs_cons (T A E s μ _ hA HI S F fun f h₁ tk₁ μ₁ t₁ S₁ F₁ hf=>?_)
 refine xEA hf fun mv q'1 rv=>?_;try clear hf;subst q'1
 exact h _ h₁ tk₁ μ₁ t₁ S₁ F₁ ⟨mv,rfl,rv⟩
theorem THR.cons {t:Stmt} {rest:List Stmt} {v:V} (T:THS1 w ad r env loc st t none loc₁ st₁) (R:THR w ad r env loc₁ st₁ rest v st₂):THR w ad r env loc st (t :: rest) v st₂:=let ⟨l,R⟩:=R;⟨l,T.cons R⟩
theorem THR.stop {t:Stmt} {rest:List Stmt} {v:V} (T:THS1 w ad r env loc st t (some v) loc₁ st₁):THR w ad r env loc st (t :: rest) v st₁:=⟨_,THS.stop T⟩
theorem THS1.assign {x:Str} {pos' pos:Pos} {e:Expr} {v:V} (T:THE w ad r env loc st e v st₁) (hk:env.kindOf x=some .local∨env.kindOf x=some .cell) (hc:env.kindOf x=some .cell→(env.cells.lookup x).isSome=true∧env.func.isSome=true)
  (hs:swapsWith e (some (.Name x pos')) pos.line env=pure false:=by rfl):THS1 w ad r env loc st (.Assign [.Name x pos'] e pos) none ((x,v) :: loc) st₁:=by
 intro A E s μ Q hA HI S F h
 refine wpH_Assign_Name (T A E s μ _ hA HI S F fun mv h₁ tk₁ μ₁ t₁ S₁ F₁ rv=>?_) hs
 refine store hk hc S₁ F₁ rv fun h' tk T' S' F'=>?_
 exact h .next h' tk μ₁ (t₁.wide.trans0 T') S' F' rfl
theorem THS1.assignTup {elts:List Expr} {k:Nat} {tpos pos:Pos} {e:Expr} {v:V} {bs:Loc} (T:THE w ad r env loc st e v st₁) (X:TT w ad r env (.Tuple elts k tpos) v bs)
  (hs:swapsWithSole [.Tuple elts k tpos] e pos.line env=pure false:=by rfl) (hw:swappedStores [.Tuple elts k tpos] e env=pure none:=by rfl):THS1 w ad r env loc st (.Assign [.Tuple elts k tpos] e pos) none (bs++loc) st₁:=by
 intro A E s μ Q hA HI S F h
 refine wpH_Assign_Tuple (T A E s μ _ hA HI S F fun mv h₁ tk₁ μ₁ t₁ S₁ F₁ rv=>?_) hs hw
 refine X A E _ μ₁ st₁ loc mv _ hA S₁ F₁ rv fun h' tk T' S' F'=>?_
 exact h .next h' tk μ₁ (t₁.wide.trans0 T') S' F' rfl
theorem while_run {test:Expr} {body:List Stmt} {A:Around} {s:Shared} {R:Result→Shared→Prop} {μ₀:Mu} {h₀:Heap} {n:Nat} (hA:AOk r A) (HI:∀ μ h,Step ad.tabs (own env) μ₀ h₀ μ h→HIn ad μ h env A)
  (L:WhileR (fun loc st b st'=>TB w ad r env loc st (isTrue test env (eval test env)) b st') (fun loc st loc' st'=>THS w ad r env loc st body none loc' st') n loc st loc₁ st₁)
  (fin:∀ h tk μ,Step ad.tabs (own env) μ₀ h₀ μ h→Sim w ad μ st₁ h→Frame ad μ h env loc₁→R (.ok .next) { s with heap:=h,toks:=tk }) :
  ∀ {μ:Mu} {h:Heap} {tk:Nat},Step ad.tabs (own env) μ₀ h₀ μ h→Sim w ad μ st h→Frame ad μ h env loc→codeH (model prog w) A (.whileLoop test body [] env) R { s with heap:=h,toks:=tk }:=by
 induction L with
 | stop ht =>
  intro μ h tk T S F
  refine whileH1 (ht A _ _ μ _ hA S F fun h' tk μ' t' S' F'=>?_)
  exact fin h' tk μ' (T.trans0 t'.wide) S' F'
 | cons ht hb _ ih =>
  intro μ h tk T S F
  refine whileH1 (ht A _ _ μ _ hA S F fun h' tk μ' t' S' F'=>?_)
  have T':=T.trans0 t'.wide
  refine hb A _ _ μ' _ hA (HI _ _ T') S' F' fun f h₂ tk₂ μ₂ t₂ S₂ F₂ hf=>?_
  obtain rfl:f=.next:=hf
  exact ih fin (T'.trans0 t₂) S₂ F₂
theorem THS1.while {test:Expr} {body:List Stmt} {pos:Pos} {n:Nat}
  (L:WhileR (fun loc st b st'=>TB w ad r env loc st (isTrue test env (eval test env)) b st') (fun loc st loc' st'=>THS w ad r env loc st body none loc' st') n loc st loc₁ st₁) :
  THS1 w ad r env loc st (.While test body [] pos) none loc₁ st₁:=by
 intro A E s μ Q hA HI S F h
 exact wpH_While (while_run (s:=s) (μ₀:=μ) (h₀:=s.heap) hA (fun _ _ T=>HI.up S F T) L (fun h' tk μ' T S F=>h .next h' tk μ' T S F rfl) .refl S F)
noncomputable def TurnH (w:World) (ad:Adr) (r:Nat) (env:Env) (target:Expr) (body:List Stmt) (v:V) (loc:Loc) (st:St) (fl:Option V) (loc':Loc) (st':St):Prop :=
 ∃ bs,TT w ad r env target v bs∧THS w ad r env (bs++loc) st body fl loc' st'
theorem THS1.for {b:Bool} {target iter:Expr} {body:List Stmt} {pos:Pos} {vals:List V} {Ok:St→Prop} {fl:Option V} (Tx:TX w ad r env loc st iter vals Ok st₁ b)
  (L:LoopR (TurnH w ad r env target body) Ok vals loc st₁ fl loc₂ st₂) (hgo:(b=true∧∃ x p,target=.Name x p)∨∃ e k p,target=.Tuple e k p)
  (hs:∀ x,foldedSetIterable iter env x=pure x:=by intro _;rfl):THS1 w ad r env loc st (.For target iter body [] pos) fl loc₂ st₂:=by
 intro A E s μ Q hA HI S F h
 refine wpH_For (Tx A E s μ _ hA S F fun I h₂ tk₂ μ₁ At Mid t₂ S₂ W a0 hI0 hIm hI2=>?_) hs
 exact loop_run (s:=s) (μ₀:=μ) (h₀:=s.heap) (Bd:=fun loc st fl loc' st'=>THS w ad r env loc st body fl loc' st') (fun _=>forLoopH1) W hA (.of S F hI0) hgo (fun _ _ _ _ _ μ h tk _ B T S' F' k=>B A _ _ μ _ hA (HI.up S F (T.off hI0)) S' F' k) L (Nat.zero_le _) rfl
  ⟨t₂.wide,S₂,F.up S t₂,a0,hIm,hI2⟩ fun f h' tk μ' T S F fr=>h f h' tk μ' (T.off hI0) S F fr
theorem looks_func {M:Model} {h:Heap} {a:Addr} {o:Obj} {fd:FuncData} (e:h.get? a=some o) (hd:o.data=.func fd):Looks M h (keeperOf (.ref a)) .frame:=by
 obtain ⟨c,d,dt,sl⟩:=o
 simp only at hd
 subst hd
 exact (Looks.ld (part:=none) e).andThen .now
theorem THE.callG {f:Str} {p pos:Pos} {e:Expr} {rest:List Expr} {i:Nat} {a:Addr} {as:List V} {v:V} (hf:FnAt ad f i a) (hk:env.kindOf f=some .globalImplicit) (T:TL w ad r env loc st (e :: rest) as st₁) (C:TCH w ad r a st₁ as v st₂)
  (he:starEach (e :: rest) env=(false,eval e env) :: starEach rest env:=by rfl) (hd:(f == ("__debug__":Str))=false:=by decide):THE w ad r env loc st (.Call (.Name f p) (e :: rest) [] pos) v st₂:=by
 intro A E s μ Q hA HI S F h
 refine xAAEEEEAAA hf fun hm hat o pm cd c ho hcls hdat _=>?_
 rw [eval_Call_Name]
 refine wpH_bind (wpH_of (Name_function_global F.fn hk (loadGlobal_global (F.gl ▸ S.base.ns) hm ?_) hd))
 refine callWithH_of (P:=fun h=>h.get? a=some o) (fun h e=>⟨.frame,.inl rfl,looks_func e hdat⟩) ?_
 have T':=T pos A E s μ (fun vs s₁=>s₁.heap.get? a=some o∧wpH (model prog w) A (call (.ref a) vs) Q E s₁) hA S F fun mvs h₁ tk₁ μ₁ t₁ S₁ F₁ r₁=>⟨S₁.base.get hat ho,
  C A E _ μ₁ mvs _ hA ((HI.up S F t₁.wide).out F₁) S₁ r₁ fun mv h₂ tk₂ μ₂ t₂ S₂ rv=>h mv h₂ tk₂ μ₂ (t₁.trans0 t₂) S₂ (F₁.up S₁ t₂) rv⟩
 rw [he] at T' ⊢
 exact PySem.Calls.evalArgs_plain T'
theorem TCH.fdo {fd:FuncData} {bd:List Stmt} {a:Addr} {ps:List Str} {as:List V} {v:V} (hf:FnFd ad a fd)
  (hbody:fd.body=.stmts bd) (hclo:fd.closure=[]) (hgl:fd.globals=mainGlobals) (hbl:fd.builtins=builtinsNs)
  (hbind:∀ (xs:List Value),xs.length=ps.length→∀ (A:Around) (E:Value→Shared→Prop) (s:Shared) (Q:List (Str × Value)→Shared→Prop),Base w ad s.heap→Q (ps.zip xs) s→wpAny (model prog w) A (bindArgs fd ⟨xs,[]⟩) Q E s)
  (hps:ps.Nodup) (hlen:as.length=ps.length)
  (hkind':∀ x∈ps,fd.scope.names.lookup x=some .local∨fd.scope.names.lookup x=some .cell)
  (hnd:((cellsFrom 0 fd.scope.names []).map (·.1)).Nodup)
  (body:∀ (L:Addr),THo w ad r (callEnvC fd L a) (ps.zip as) st bd v st₁)
  (hco:fd.scope.isCoroutine=false:=by rfl) (hgen:fd.scope.isGenerator=false:=by rfl) (hk:fd.scope.kind=.function:=by rfl) :
  TCH w ad (r + 1) a st as v st₁:=by
 intro A E s μ xs Q hA HO S hxs k
 have hkind:∀ x∈ps,fd.scope.names.lookup x=some .local∨(fd.scope.names.lookup x=some .cell∧∀ n,((cellsFrom n fd.scope.names []).lookup x).isSome=true):=fun x hx=>(hkind' x hx).imp id fun q=>⟨q,fun n=>cells_some q⟩
 refine xAEEAAAA hf fun hat o c ho hd hcode hct hrec=>?_
 have hxl:xs.length=ps.length:=hxs.length.symm.trans hlen
 have hrec':s.heap.CodeRec fd.code fd.qualname:=by rw [hcode] at hrec ⊢;exact S.base.codeRec hct hrec
 refine wpH_call (codeH_call_function hA.room (S.base.get hat ho) hd hco hgen hbody hrec' (hbind xs hxl _ _ _ _ S.base ?_))
 rw [hclo]
 refine wpAny_newFunctionEnv_cells hk ?_ fun env he s₁ X=>?_
 ·intro x hx
  have hm:x.1∈ps:=(List.of_mem_zip hx).1
  rcases hkind x.1 hm with h1 | h1
  ·exact .inl h1
  ·exact .inr ⟨h1.1,h1.2 _⟩
 ·subst he
  refine ⟨S.base.noLimit.keeps X.toInCall.keep,codeH_func ?_⟩
  refine xEE X.toInCall.same fun h₁ tk₁ q'1=>?_;subst q'1
  have hns:=X.toInCall.ns
  have hkeep:=X.toInCall.keep
  have hL:(callEnvC fd s.heap.objs.size a).locals=s.heap.objs.size:=rfl
  have hsz:s.heap.objs.size≤h₁.objs.size:=Nat.le_of_lt (Heap.Ns.lt (hL ▸ hns))
  have T:Step ad.tabs [] μ s.heap μ h₁:=.grow hsz hkeep
  have S₁:Sim w ad μ st h₁:=S.grow hsz hkeep
  have zip:All2 (LB μ h₁) (ps.zip as) (ps.zip xs):=by
   clear hps hkind hkind' hbind X hns hkeep hxl hlen body k
   induction hxs generalizing ps with
   | nil=>simp;exact .nil
   | cons hr _ ih=>cases ps with
    | nil=>simp;exact .nil
    | cons p ps=>exact .cons ⟨rfl,hr.up S T Loose.nil⟩ (ih (ps:=ps))
  have zn:((ps.zip as).map (·.1)).Nodup:=by rw [List.map_fst_zip (Nat.le_of_eq hlen.symm)];exact hps
  have hi:∀ {b:Addr},s.heap.objs.size≤b→b∉muts μ:=fun hb q=>absurd (muts_lt S q) (Nat.not_lt.mpr hb)
  have ht:∀ {b:Addr},s.heap.objs.size≤b→b∉ad.tabs:=fun hb q=>absurd (S.base.tabs _ q).1 (Nat.not_lt.mpr (Nat.le_trans S.base.size hb))
  have F:Frame ad μ h₁ (callEnvC fd s.heap.objs.size a) (ps.zip as):=by
   refine ⟨hk,hgl,hbl,⟨_,hns,fun x v e kk=>bindL_get zip zn e kk⟩,fun x v e kk=>?_,fun x d hm=>?_,X.apart,hi (Nat.le_refl _),ht (Nat.le_refl _),S.base.size⟩
   ·have hx:x∈ps:=by
     have:=mem_lookup e
     exact (List.of_mem_zip this).1
    refine xEA (bindC_get (m:=fun _=>none) zip zn e (k:=(callEnvC fd s.heap.objs.size a).kindOf) (fun q=>by rcases kk with kk | kk <;> (rw [kk] at q;exact absurd q (by decide)))) fun mv e1 rv=>?_
    rcases hkind x hx with h1 | h1
    ·rcases kk with kk | kk
     ·have:fd.scope.names.lookup x=some .cell:=kk
      rw [h1] at this;exact absurd this (by decide)
     ·have:fd.scope.names.lookup x=some .free:=kk
      rw [h1] at this;exact absurd this (by decide)
    ·refine xE (Option.isSome_iff_exists.mp (h1.2 (s.heap.objs.size + 1))) fun d hd'=>?_
     have z:=X.cell x d hd'
     exact ⟨d,mv,hd',by rw [← e1];exact z,rv⟩
   ·have ab:s.heap.objs.size < d:=X.above x d hm
    have nd:((cellsFrom (s.heap.objs.size + 1) fd.scope.names []).map (·.1)).Nodup:=cellsFrom_names fd.scope.names 0 (s.heap.objs.size + 1) [] [] rfl ▸ hnd
    exact ⟨⟨_,X.cell x d (lookup_of_mem_nodup nd hm)⟩,hi (Nat.le_of_lt ab),ht (Nat.le_of_lt ab),fun _ _=>Nat.le_trans S.base.size (Nat.le_of_lt ab),Nat.ne_of_gt ab⟩
  have ends:∀ b∈own (callEnvC fd s.heap.objs.size a),s.heap.objs.size≤b:=fun b hb=>by
   rcases own_mem hb with rfl | ⟨x,hm⟩
   ·exact Nat.le_refl _
   ·exact Nat.le_of_lt (X.above x b hm)
  refine xEEA (body s.heap.objs.size) fun fl locE bdy hv=>?_
  subst hv
  refine bdy _ _ _ μ _ (hA.deeper _) (HO.deeper S T rfl rfl ends) S₁ F fun f h₂ tk₂ μ₂ t₂ S₂ F₂ hf=>?_
  cases fl with
  | none =>
   have hf:f=.next:=hf
   subst hf
   exact k .none h₂ tk₂ μ₂ (T.trans t₂ fun b hb=>.inr (ends b hb)) S₂ .none
  | some v =>
  refine xEA hf fun mv q'1 rv=>?_;try clear hf;subst q'1
  refine k mv h₂ tk₂ μ₂ (T.trans t₂ fun b hb=>.inr (ends b hb)) S₂ rv
theorem TCH.def {nm:Str} {i:Nat} {a:Addr} {ps:List Str} {as:List V} {v:V} (hf:FnAt ad nm i a)
  (hbind:∀ (pm cd:Value) (xs:List Value),xs.length=ps.length→bindArgs (fdAt i nm pm cd) ⟨xs,[]⟩=pure (ps.zip xs))
  (hps:ps.Nodup) (hlen:as.length=ps.length)
  (hkind':∀ x∈ps,(fScope (stAt i)).names.lookup x=some .local∨(fScope (stAt i)).names.lookup x=some .cell)
  (hnd:((cellsFrom 0 (fScope (stAt i)).names []).map (·.1)).Nodup)
  (body:∀ (pm cd:Value) (L:Addr),THR w ad r (frameEnv i nm pm cd L a) (ps.zip as) st (fBody (stAt i)) v st₁)
  (hco:(fScope (stAt i)).isCoroutine=false:=by rfl) (hgen:(fScope (stAt i)).isGenerator=false:=by rfl) (hk:(fScope (stAt i)).kind=.function:=by rfl) :
  TCH w ad (r + 1) a st as v st₁:=by
 refine xEE hf.fd fun pm cd h=>?_
 exact TCH.fdo h rfl rfl rfl rfl (fun xs hx A E s Q _ q=>by rw [hbind pm cd xs hx];exact wpAny_pure q) hps hlen hkind' hnd (fun L=>(body pm cd L).o) hco hgen hk
end Mine
namespace Mine
open PySem PySem.W PySem.Calls PyProof.Rows Builtin Builtin.ObjectAttr Builtin.Getset_descriptor
open Sem (wp)
variable {w : World} {ad : Adr} {r : Nat} {st st₁ st₂ st₃ : St} {env : Env} {loc loc₁ loc₂ loc₃ : Loc}
section
variable {M:Model} {A:Around} {E:Value→Shared→Prop} {s:Shared}
theorem made_is (own:List String) (codes:List Code):∃ y z,pythonCodeMadeTheCall own codes=((!codes.any Code.isCaller && y) && z):=⟨_,_,rfl⟩
theorem not_made {own:List String} {codes:List Code} (h:codes.any Code.isCaller=true):pythonCodeMadeTheCall own codes=false:=by
 refine xEE (made_is own codes) fun y z e=>?_
 rw [e,h];rfl
theorem wpH_mark {e:Value} {Q:Unit→Shared→Prop} (h:Q () s):wpH M A (markTheRefusal [] e) Q E s:=fun Γ p _ hc=>by
 have q:pythonCodeMadeTheCall [] (((Γ.code,p) :: Γ.below).map (·.1))=false:=not_made (by rw [List.map_cons,List.any_cons,show (Γ.below.map (·.1)).any Code.isCaller=true from hc,Bool.or_true])
 unfold markTheRefusal
 rw [Sem.wp_bind']
 unfold PySem.stack
 rw [Sem.wp_stack]
 show wp M Γ (if pythonCodeMadeTheCall [] (((Γ.code,p) :: Γ.below).map (·.1))=true then _ else _) _ _ p s
 rw [if_neg (by rw [q];exact Bool.false_ne_true)]
 exact h
theorem wpH_binderRefuses {α:Type} {msg:String} {Q:α→Shared→Prop} (hh:A.handled=none) (hx:(Str.ofString msg).length≤sizeLine)
  (h:∀ h' e tk v,Heap.MadeExc s.heap h' e "TypeError" [v]→s.heap.objs.size≤h'.objs.size→E (.ref e) { s with heap:=h',toks:=tk }):wpH M A (theBinderRefuses msg:Sem α) Q E s:=by
 unfold theBinderRefuses
 refine wpH_bind (wpH_of (wpAny_mkStr ?_ hx))
 refine wpH_bind (wpH_of (wpAny_sized (wpAny_newExc_plain plainExc_TypeError fun h' e hm hz=>?_)))
 refine wpH_bind (wpH_mark ?_)
 exact wpH_of (wpAny_raiseNew_none hh (h h' e _ _ hm hz))
end
section
variable {prog:Program} {A:Around} {E:Value→Shared→Prop} {R:Result→Shared→Prop} {s:Shared}
theorem codeH_call_builtin_at {id:String} {args:Args} {b:Builtin} (hq:(Code.builtin id args).quiet=true) (hb:entryFor table id=some b)
  (h:wpAny (model prog w) A.in1 (checkBuiltinCall id args) (fun _ s₁=>wpH (model prog w) (A.under (.builtin id args)) (b args)
   (fun fin s'=>match fin with | .done f=>R (.ok f) s' | .again c'=>c'.quiet=true∧codeH (model prog w) A c' R s') (fun e s'=>R (.error e) s') s₁)
   (fun e s'=>R (.error e) s') s):codeH (model prog w) A (.call (.builtin id) args) R s:=by
 refine codeH_of_tree ?_
 show wpH _ A.in1 (do checkBuiltinCall id args;again (.builtin id args)) _ _ s
 refine wpH_bind (wpH_of (wpAny_mono h (fun _ s₁ h₁=>wpH_pure (And.intro hq (codeH_of_tree ?_))) fun _ _ h'=>h'))
 show wpH _ _ (match entryFor table id with | some b=>b args | none=>unsupported ((withoutEnding? id "#data").getD id)) _ _ s₁
 rw [hb];exact h₁
theorem codeH_refuse {a:Addr} {args:Args} {o:Obj} {fd:FuncData} {body:List Stmt} (ho:s.heap.get? a=some o)
  (hd':o.data=.func fd) (hco:fd.scope.isCoroutine=false) (hgen:fd.scope.isGenerator=false) (hbody:fd.body=.stmts body) (hcd:s.heap.CodeRec fd.code fd.qualname)
  (h:wpH (model prog w) A.in1 (bindArgs fd args) (fun _ _=>False) (fun e s'=>R (.error e) s') s) :
  codeH (model prog w) A (.call (.ref a) args) R s:=by
 refine codeH_of_tree ?_
 show wpH _ A.in1 (callAny (.ref a) args) _ _ s
 simp only [callAny]
 refine wpH_bind (wpH_of (wpAny_load ho ?_))
 refine xEEEEAAA hcd fun c oc vs tq hc hoc hdc hq=>?_
 simp only [hd',callFunction,hco,hgen,hbody,hc]
 refine wpH_bind (m:=field (.ref c) 1) (wpH_of (wpAny_field hoc hdc hq (wpH_bind (wpH_pure ?_))))
 exact wpH_bind (wpH_mono h (fun _ _ x=>x.elim) fun _ _ x=>x)
end
theorem run_allH {M:Model} {K:Frag} {α:Type} {A:Around} {Q:α→Shared→Prop} {E:Value→Shared→Prop} (n:Nat) {t t':Sem α} {h h':Heap} {g:Array GenState} {dr:Drawn} {tk tk':Nat} {os:OsState} (X:K.In h)
  (e:stepsA K ⟨M.prog,M.w.params⟩ n h tk t=(t',h',tk')) (q:wpH M A t' Q E ⟨h',g,dr,tk',os⟩):wpH M A t Q E ⟨h,g,dr,tk,os⟩:=fun Γ p hΓ hc=>run_wp n X e (q Γ p hΓ hc)
theorem new_refuses {M:Model} {h:Heap} {tk:Nat} {x y:Value}:∃ (msg:String) (f:PUnit→Sem (List (Str × Value))),stepsA [] ⟨M.prog,M.w.params⟩ 1 h tk (bindArgs fdNew ⟨[y,x],[]⟩)=((theBinderRefuses msg:Sem PUnit) >>= f,h,tk)∧(Str.ofString msg).length≤sizeLine:=⟨_,_,rfl,Nat.le_of_ble_eq_true (by kernel_rfl)⟩
theorem wpH_bind_refuse {M:Model} {A:Around} {E:Value→Shared→Prop} {s:Shared} {x y:Value} {Q:List (Str × Value)→Shared→Prop} (hh:A.handled=none)
  (h:∀ h' e tk v,Heap.MadeExc s.heap h' e "TypeError" [v]→s.heap.objs.size≤h'.objs.size→E (.ref e) { s with heap:=h',toks:=tk }):wpH M A (bindArgs fdNew ⟨[y,x],[]⟩) Q E s:=by
 refine xEEA (new_refuses (M:=M) (h:=s.heap) (tk:=s.toks) (x:=x) (y:=y)) fun msg f e hx=>?_
 obtain ⟨hp,g,dr,tk,os⟩:=s
 exact run_allH (K:=[]) 1 (fun _ _ e=>nomatch e) e (wpH_bind (wpH_binderRefuses hh hx h))
theorem pair_refuse {A:Around} {E:Value→Shared→Prop} {s:Shared} {Q:Value→Shared→Prop} {x:Value} (B:Base w ad s.heap) (hh:A.handled=none)
  (h:∀ h' e tk v,Heap.MadeExc s.heap h' e "TypeError" [v]→s.heap.objs.size≤h'.objs.size→E (.ref e) { s with heap:=h',toks:=tk }) :
  wpH (model prog w) A (call (.ref 203) [x]) Q E s:=by
 have X:=B.frag
 have hno:=B.noThird
 have F130:=frag_fn B.facts (a:=130) (c:=129) (fd:=fdNew) (by rfl) rfl (by rfl) (by rfl)
 obtain ⟨hp,g,dr,tk,os⟩:=s
 dsimp only at X B hno h
 have h203:=X 203 _ rfl
 have h180:=X 180 _ rfl
 have Lc:Looks (model prog w) hp (specialOf (.ref 203) (Str.ofString "__call__")) (some (.builtin "type.__call__")):=looks_specialIn X (by kernel_rfl)
 have typ:Looks (model prog w) hp (isInstance (.ref 203) (.type "type")) true:=looks_instIn X (by kernel_rfl)
 refine wpH_call (codeH_of_tree ?_)
 refine wpH_of ?_
 show wpAny _ _ (callAny (.ref 203) _) _ _ _
 refine nd_load h203 ?_
 show wpAny _ _ (callAny.viaDunder (.ref 203) _) _ _ _
 unfold callAny.viaDunder
 refine wpAny_bind (Lc.at ?_)
 dsimp only
 rw [tc_bind]
 refine wpAny_bind (wpAny_pure (wpAny_bind (wpAny_pure ?_)))
 refine wpAny_pure (a:=PySem.Fin.again (.call (.builtin "type.__call__") ⟨.ref 203 :: [x],[]⟩)) (And.intro rfl ?_)
 refine codeH_call_builtin_at (Code.quiet_builtin _ (by decide +kernel)) entry_typeCall (@check_slot (model prog w) _ _ _ "type.__call__" "type" "__call__" (.ref 203) [x] [] _ tc_kind tc_split typ (tc_args _ _ _) ?_)
 have Lm:Looks (model prog w) hp (Bind.madeBy (.ref 203)) none:=looks_madeK X
 have Kg:wpAny (model prog w) (A.under (.builtin "type.__call__" ⟨[.ref 203,x],[]⟩)) (getAttr (.ref 203) (Str.ofString "__new__")) (fun v s'=>v=.ref 130∧s'=⟨hp,g,dr,tk + 1,os⟩) (fun _ _=>False) ⟨hp,g,dr,tk,os⟩:=by
  refine clsK_get X hno (by kernel_rfl) (g:=.builtin "staticmethod.__get__") (a:=.ref 181) (obj:=.none) (tp:=.ref 203) (by kernel_rfl) ?_
  refine wpAny_call (sm_get X (f:=.ref 130) (rest:=[]) (by rfl) ?_)
  exact wpAny_pure ⟨rfl,rfl⟩
 have KN:wpH (model prog w) (A.under (.builtin "type.__call__" ⟨[.ref 203,x],[]⟩)) (call (.ref 130) [.ref 203,x]) (fun v s'=>False) E ⟨hp,g,dr,tk + 1,os⟩:=by
  refine xAEEAAAA F130 fun hat o c ho hd hcode hct hrec=>?_
  have hrec':hp.CodeRec fdNew.code fdNew.qualname:=by rw [hcode] at hrec ⊢;exact B.codeRec hct hrec
  refine wpH_call (codeH_refuse (B.get hat ho) hd rfl rfl rfl hrec' ?_)
  with_reducible refine wpH_bind_refuse ?_ ?_
  ·exact hh
  ·exact h
 have hm:Looks (model prog w) hp (mroOf (.ref 203)) [.ref 203,.ref 180,.type "tuple",.type "object"]:=by
  have e:clsIn (fragK w) 203=some ((clsIn (fragK w) 203).get!):=by kernel_rfl
  exact (looks_clsIn X e).andThen (Looks.of_pure (by kernel_rfl))
 clear typ Lc h180 h203 hno F130 X
 unfold Builtin.«type.__call__»
 show wpH _ _ (if (Value.ref 203 == Value.type "type")=true then _ else _) _ _ _
 rw [if_neg (show ¬ ((Value.ref 203 == Value.type "type")=true) from by trivial)]
 dsimp only
 refine wpH_bind (wpH_of (hm.here ?_))
 rw [if_neg (show ¬ (List.isEmpty [Value.ref 203,Value.ref 180,Value.type "tuple",Value.type "object"]=true) from by decide)]
 refine wpH_bind (wpH_of (Lm.here ?_))
 dsimp only
 refine wpH_bind (wpH_of (wpAny_mono Kg ?_ (fun _ _ z=>z.elim)))
 rintro v s' ⟨rfl,rfl⟩
 exact wpH_bind (wpH_holding (wpH_mono KN (fun _ _ z=>z.elim) (fun _ _ z=>z)))
end Mine
namespace Mine
open PySem PySem.W PySem.Calls PyProof.Rows PySem.Builtin PySem.Builtin.Str
variable {w : World} {ad : Adr} {r : Nat} {st st₁ st₂ st₃ : St} {env : Env} {loc loc₁ loc₂ loc₃ : Loc}
theorem strsFrom_rel {μ:Mu} {h:Heap}:∀ (l:List Str) (t:Tok),All2 (RV cPair μ h) (l.map V.str) (strsFrom t l)
 | [],_=>.nil
 | x :: l,t=>.cons (.str x _) (strsFrom_rel l _)
theorem TO.splitMax {x y:Str} {k:Int} (hy:(y.length == 0)=false) (hk:(decide (k < -(2 ^ 63:Int)) || decide (k ≥ 2 ^ 63))=false) (hsz:x.length + 2≤sizeLine) :
  TO w ad r st (fun xs=>PySem.call (.builtin "str.split") xs) [.str x,.str y,.int k] (.ref st.length) (st++[.list ((Txt.splitMax x y k).map V.str)]):=by
 intro A E s μ xs Q hA S hx q
 refine hx.e3 fun _ _ _ hx hy' hz=>?_
 refine hx.str_ fun t=>?_
 refine hy'.str_ fun u=>?_
 refine hz.int_ fun v=>?_
 have hn:(partsBetween x (occurrences x y 0 x.length (limitOf x k)) y.length).length≤sizeLine:=by
  have e1:=StrLaws.occ_length_le_len x y 0 x.length (limitOf x k)
  rw [length_partsBetween];exact Nat.lt_of_le_of_lt ‹_› ‹_›
 have fin:∀ (mvs:List Value) (tk:Nat),All2 (RV cPair μ s.heap) ((Txt.splitMax x y k).map V.str) mvs→Q (.ref s.heap.objs.size) { s with heap:=s.heap.push (listOf mvs.toArray 0),toks:=tk }:=fun mvs tk hv =>
  q _ _ _ _ (.pushNew _) (S.pushList hv) (.ref (by rw [List.getElem?_append_right (Nat.le_of_eq S.len),S.len,Nat.sub_self];rfl))
 cases h1:(decide (x.length < y.length) || decide (strKind x < strKind y))
 ·cases hf:(occurrences x y 0 x.length (limitOf x k)).isEmpty
  ·refine call_meets F.slot_str_split (typeIs_str _ _ _) F.entry_str_split (F.args_str_split_3 _ _ _) (meets_str_split_sep_max x y k t u v hk h1 hy hf (by omega) hn) ?_
   refine fin (strsFrom s.toks (partsBetween x (occurrences x y 0 x.length (limitOf x k)) y.length)) _ ?_
   rw [show Txt.splitMax x y k=partsBetween x (occurrences x y 0 x.length (limitOf x k)) y.length from (if_neg (ne_true_of_eq_false h1)).trans (if_neg (ne_true_of_eq_false hf))]
   exact strsFrom_rel _ _
  ·refine call_meets F.slot_str_split (typeIs_str _ _ _) F.entry_str_split (F.args_str_split_3 _ _ _) (meets_str_split_max_not_found x y k t u v hk h1 hy hf) ?_
   refine fin [.str x t] s.toks ?_
   rw [show Txt.splitMax x y k=[x] from (if_neg (ne_true_of_eq_false h1)).trans (if_pos hf)]
   exact .cons (.str x t) .nil
 ·refine call_meets F.slot_str_split (typeIs_str _ _ _) F.entry_str_split (F.args_str_split_3 _ _ _) (meets_str_split_max_cannot_occur x y k t u v hk h1) ?_
  refine fin [.str x t] s.toks ?_
  rw [show Txt.splitMax x y k=[x] from if_pos h1]
  exact .cons (.str x t) .nil
theorem TE.typeAttr {value:Expr} {pos:Pos} {T:String} {name:Str} {v:Value} (T0:TE w ad r env loc st value (.lit (.type T)) st₁) (ht:typeOf (.type T)=pure (.type "type")) (hs:Manifest.isStub T=false)
  (e:findCls (fragK w) (.type T) (.type "type") name=some (.val v)) (hh:handedIn v=true)
  (he:eval (.Attribute value name pos) env=(do
   let o ← eval value env
   standAt pos.atName
   let r ← holding [o] (getAttr o name true)
   letTemporaryGo value o r
   pure r):=by with_unfolding_all rfl):TE w ad r env loc st (.Attribute value name pos) (.lit v) st₁:=by
 intro A E s μ Q hA S F h
 refine Attribute_any_ ?_ he
 refine T0 A E s μ _ hA S F fun mv h₁ tk₁ μ₁ t₁ S₁ F₁ r₁=>?_
 obtain rfl:=r₁.litE
 exact get_type S₁.base.frag ht hs e hh (h v h₁ _ μ₁ t₁ S₁ F₁ (.lit v))
theorem All2.ofGet {α β:Type} {R:α→β→Prop}:∀ {l:List α} {m:List β},l.length=m.length→(∀ (i:Nat) (a:α) (b:β),l[i]?=some a→m[i]?=some b→R a b)→All2 R l m
 | [],[],_,_=>.nil
 | a :: l,b :: m,e,h=>.cons (h 0 a b rfl rfl) (All2.ofGet (Nat.succ.inj e) fun i x y p q=>h (i + 1) x y (by simpa using p) (by simpa using q))
theorem star_sized {A:Around} {E:Value→Shared→Prop} {s:Shared} {t:Sem Value} {Q:List Value→Shared→Prop}
  (h:wpAny (model prog w) A t (fun v s₁=>StarOf (model prog w) A E v (fun vs s'=>s.heap.objs.size≤s'.heap.objs.size→Q vs s') s₁) E s) :
  wpAny (model prog w) A t (fun v s₁=>StarOf (model prog w) A E v Q s₁) E s:=by
 refine wpAny_sized (wpAny_mono h (fun v s₁ h₁ z₁=>?_) fun _ _ x _=>x)
 unfold StarOf at h₁ ⊢
 refine wpAny_sized (wpAny_mono h₁ (fun b s₂ h₂ z₂=>⟨h₂.1,?_⟩) fun _ _ x _=>x)
 exact wpAny_sized (wpAny_mono h₂.2 (fun vs s₃ h₃ z₃=>h₃ (Nat.le_trans z₁ (Nat.le_trans z₂ z₃))) fun _ _ x _=>x)
noncomputable def TSt (w:World) (ad:Adr) (r:Nat) (env:Env) (loc:Loc) (st:St) (e:Expr) (vs:List V) (st':St):Prop :=
 ∀ (A:Around) (E:Value→Shared→Prop) (s:Shared) (μ:Mu) (Q:List Value→Shared→Prop),AOk r A→Sim w ad μ st s.heap→Frame ad μ s.heap env loc →
  (∀ mvs h' tk μ',Step ad.tabs [] μ s.heap μ' h'→Sim w ad μ' st' h'→Frame ad μ' h' env loc→All2 (RV cPair μ' h') vs mvs→Q mvs { s with heap:=h',toks:=tk }) →
  wpAny (model prog w) A (eval e env) (fun v s₁=>StarOf (model prog w) A E v Q s₁) E s
theorem TSt.map {f:Str} {p pos:Pos} {e:Expr} {rest:List Expr} {n:Nat} {l:List Str} (T0:TE w ad r env loc st (.Name f p) (.lit (.type "map")) st₁) (T:TL w ad r env loc st₁ (e :: rest) [.lit (.builtin "str.strip"),.ref n] st₂) (hs:st₂[n]?=some (.list (l.map V.str)))
  (hl:∀ x∈l,x.length≤sizeLine) (hn:l.length≤sizeLine)
  (he:starEach (e :: rest) env=(false,eval e env) :: starEach rest env:=by rfl) (hpl:∀ env:Env,(backTo pos (starEach rest env)).any (·.1)=false:=by intro _;rfl) :
  TSt w ad r env loc st (.Call (.Name f p) (e :: rest) [] pos) ((l.map Txt.strip).map V.str) st₂:=by
 intro A E s μ Q hA S F h
 rw [eval_Call_Name]
 refine wpAny_bind (T0 A E s μ _ hA S F fun mv h₁ tk₁ μ₁ t₁ S₁ F₁ r₁=>?_)
 obtain rfl:=r₁.litE
 have T':=T pos
 rw [he] at T' ⊢
 refine callWith_of (P:=fun h=>(fragK w).In h) (by show ((false || (backTo pos (starEach rest env)).any (·.1)) || false)=false;rw [hpl];rfl) (fun h X=>(Keeps1.type:Keeps1 w (.type "map")) h X) (evalArgs_plain ?_)
 refine T' A E _ μ₁ _ hA S₁ F₁ fun mvs h₂ tk₂ μ₂ t₂ S₂ F₂ r₂=>⟨S₂.base.frag,?_⟩
 refine r₂.e2 fun _ _ ra rb=>?_
 obtain rfl:=ra.litE
 refine rb.ref_ fun _ _ hm=>?_
 refine S₂.listOn hs hm fun items hL hv=>?_
 have hlen:items.size=l.length:=by have:=hv.length;simpa using this.symm
 have item:∀ (i:Nat) (v:Value),items[i]?=some v→∃ x t,l[i]?=some x∧v=.str x t:=fun i v e=>by
  have hi:i < l.length:=hlen ▸ (Array.getElem?_eq_some_iff.mp e).1
  refine xEA (hv.get i (a:=.str l[i]) (by simp [hi])) fun v' e' rv=>?_
  have:v'=v:=by simpa [e] using e'.symm
  subst this
  refine xE rv.strE fun _ q'1=>?_;subst q'1
  exact ⟨_,_,List.getElem?_eq_getElem hi,rfl⟩
 refine star_sized (star_map hA.handled hL (fun i v e=>?_) (by omega) fun h' tk vs k hvl hvs hz=>?_)
 ·refine xEEA (item i v e) fun x t e1 q'1=>?_;subst q'1
  exact ⟨x,t,rfl,hl x (List.mem_of_getElem? e1)⟩
 ·have T3:Step ad.tabs [] μ₂ h₂ μ₂ h':=.grow hz k
  refine h vs h' tk μ₂ ((t₁.trans0 t₂).trans0 T3) (S₂.grow hz k) (F₂.up S₂ T3) (All2.ofGet (by simp [hvl,hlen]) fun i a b ea eb=>?_)
  refine xEEEA (hvs i b eb) fun x t u e1 q'1=>?_;subst q'1
  refine xEEA (item i _ e1) fun x' t' e2 e3=>?_
  cases e3
  simp [e2] at ea
  subst ea
  exact .str _ _
end Mine
namespace Mine
open PySem PySem.W PySem.Calls PyProof.Rows PySem.Builtin
variable {w : World} {ad : Adr} {r : Nat} {st st₁ st₂ st₃ : St} {env : Env} {loc loc₁ loc₂ loc₃ : Loc}
noncomputable def FrD (ad:Adr) (μ:Mu) (h:Heap) (fs:List Addr):Prop:=∀ a∈fs,ad.n0≤a∧a∉muts μ∧∃ o es n,h.get? a=some o∧o.data=.dict es n
theorem Sim.slots {μ:Mu} {h h':Heap} {fs:List Addr} (S:Sim w ad μ st h) (D:FrD ad μ h fs) (hz:h.objs.size≤h'.objs.size) (k1:∀ b o,h.get? b=some o→b∉fs→h'.get? b=some o)
  (k2:∀ b o,h.get? b=some o→b∈fs→∃ sl,h'.get? b=some { o with slots:=sl }):Sim w ad μ st h'∧Step ad.tabs [] μ h μ h':=by
 have lf:Loose h fs:=fun a ha o ho=>by
  refine xAAEEEA (D a ha) fun _ _ o' es n e d=>?_
  rw [e] at ho;obtain rfl:=Option.some.inj ho
  exact notFixedD d
 have T:Step ad.tabs [] μ h μ h':=by
  refine ⟨⟨[],by simp,by simp⟩,hz,fun a o e _ _ _=>?_⟩
  by_cases ha:a∈fs
  ·refine xAAEEEA (D a ha) fun _ _ o' es n e' d=>?_
   rw [e] at e';obtain rfl:=Option.some.inj e'
   exact .inr ⟨⟨es,n,d⟩,k2 a o e ha⟩
  ·exact .inl (k1 a o e ha)
 refine ⟨⟨S.base.ext (X:=fs) hz (fun b o nb e=>k1 b o e nb) (fun a ha=>(D a ha).1) lf,S.len,fun n p ob hn ho=>?_,S.high,S.apart⟩,T⟩
 have m1:p.1∉fs:=fun q=>(D _ q).2.1 (mem_muts.mpr ⟨n,p,hn,.inl rfl⟩)
 have m2:p.2∉fs:=fun q=>(D _ q).2.1 (mem_muts.mpr ⟨n,p,hn,.inr rfl⟩)
 exact (S.obj n p ob hn ho).up S T Loose.nil (fun o e=>k1 _ o e m1) (fun o e=>k1 _ o e m2)
noncomputable def Thrown (h1:Heap) (fs:List Addr) (l:List Env) (e:Addr) (h':Heap):Prop :=
 ∃ a0,Heap.FlyingW (hideAll h1 fs) l e (.type "TypeError") a0 h'∧h1.UpToSlots h'∧h1.objs.size≤h'.objs.size
theorem Sim.landed {μ:Mu} {h h':Heap} {fs:List Addr} (S:Sim w ad μ st h) (D:FrD ad μ h fs) (hz:h.objs.size≤h'.objs.size) (k1:(hideAll h fs).StaysIn h') (k2:h.UpToSlots h'):Sim w ad μ st h'∧Step ad.tabs [] μ h μ h' :=
 S.slots D hz (fun b o e nb=>k1 b o (hideAll_get _ e nb)) fun b o e hb=>by
  refine xAAEEEA (D b hb) fun _ _ o' es n e' d=>?_
  rw [e] at e';obtain rfl:=Option.some.inj e'
  exact k2 b o e fun vs q=>by rw [d] at q;cases q
theorem funFrames_of {μ:Mu} {h:Heap} {as:List Addr}:∀ {l:List Env},FrL ad μ h l→(∀ e∈l,∀ L,e.frame=some L→L∈as)→h.FunFrames (hideAll h as) l
 | [],_,_=>trivial
 | env :: l,H,hin=>by
  refine xAEAAAAEEEA (H env (.head _)) fun k L f _ _ _ o es n ho hd=>?_
  exact ⟨k,⟨L,o,f,hideAll_none _ (hin env (.head _) L f),ho,fun vs q=>by rw [hd] at q;cases q⟩,funFrames_of (fun e he=>H e (.tail _ he)) fun e he=>hin e (.tail _ he)⟩
noncomputable def fdParse:FuncData:=methOf 6 0 "parse" "Pair.parse" (.none) (.none) (.str ("cpy313.importlib.metadata._collections":Str) 286) (.ref 196) (.none) [] (some 200)
noncomputable abbrev parseEnv (L:Addr):Env:=callEnvC fdParse L 197
theorem parse_star {L:Addr} {x:Str} (N:Names ad) (hx:x.length + 2≤sizeLine) (hn:(Txt.splitMax x ("=":Str) 1).length≤sizeLine) :
  ∃ e p sp cp rp,fBody (methAt 6 0)=[.Return (some (.Call (.Name "cls" p) [.Starred e sp] [] cp)) rp] ∧
   TSt w ad (r + 8) (parseEnv L) [("cls",.lit (.ref 203)),("text",.str x)] st e (((Txt.splitMax x ("=":Str) 1).map Txt.strip).map V.str) (st++[.list ((Txt.splitMax x ("=":Str) 1).map V.str)]):=by
 refine ⟨_,_,_,_,_,rfl,?_⟩
 refine TSt.map (TE.nameB (by rfl) N.map (by decide) rfl) (TL.cons (ns rfl) (TE.typeAttr (T:="str") (v:=.builtin "str.strip") (TE.nameB (by rfl) N.str (by decide) rfl) (by kernel_rfl) (by kernel_rfl) (by kernel_rfl) (by kernel_rfl))
  (TL.cons (ns rfl) (TE.meth (TE.name rfl (.inl rfl)) (TM.str F.slot_str_split F.type_str_split) Keeps1.builtin (TL.cons (ns rfl) TE.cstr (TL.cons (ns rfl) TE.int TL.nil)) (TO.splitMax (by decide) (by decide) hx)) TL.nil)) (by exact at0) (fun y hy=>?_) hn
 have:=partMax_short hy
 omega
theorem parse_code {A:Around} {R:Result→Shared→Prop} {s:Shared} {μ:Mu} {l:List Env} {x:Str} {t:Tok} (N:Names ad) (hA:AOk (r + 9) A) (hl:A.frames=some l) (HL:FrL ad μ s.heap l) (S:Sim w ad μ st s.heap)
  (hx:x.length + 2≤sizeLine)
  (hps:(∃ a b,Txt.splitMax x ("=":Str) 1=[a,b]∧∀ mv h' tk μ',Step ad.tabs [] μ s.heap μ' h'→Sim w ad μ' (st++[.list [.str a,.str b],.pair (.str (Txt.strip a)) (.str (Txt.strip b))]) h'→RV cPair μ' h' (.ref (st.length + 1)) mv→R (.ok (.ret mv)) { s with heap:=h',toks:=tk }) ∨
   ∃ a,Txt.splitMax x ("=":Str) 1=[a]∧∀ e h1 h' tk μ1 fs,Step ad.tabs [] μ s.heap μ1 h1→Sim w ad μ1 (st++[.list [.str a]]) h1→FrD ad μ1 h1 fs→Thrown h1 fs l e h'→R (.error (.ref e)) { s with heap:=h',toks:=tk }) :
  codeH (model prog w) A (.call (.ref 197) ⟨[.ref 203,.str x t],[]⟩) R s:=by
 have hn:(Txt.splitMax x ("=":Str) 1).length≤sizeLine:=by
  rcases hps with ⟨a,b,e,_⟩ | ⟨a,e,_⟩ <;> rw [e]
  ·show 2≤sizeLine;decide
  ·show 1≤sizeLine;decide
 refine xAEEAAAA (frag_fn S.base.facts (a:=197) (c:=196) (fd:=fdParse) (by rfl) rfl (by rfl) (by rfl)) fun hat o c ho hd hcode hct hrec=>?_
 have hrec':s.heap.CodeRec fdParse.code fdParse.qualname:=by rw [hcode] at hrec ⊢;exact S.base.codeRec hct hrec
 refine codeH_call_function hA.room (S.base.get hat ho) hd rfl rfl rfl hrec' ?_
 rw [show bindArgs fdParse ⟨[.ref 203,.str x t],[]⟩=pure [(("cls":Str),.ref 203),(("text":Str),.str x t)] from rfl]
 refine wpAny_pure ?_
 refine wpAny_newFunctionEnv_cells rfl ?_ fun env he s₁ X=>?_
 ·intro y hy
  rcases List.mem_cons.mp hy with rfl | hy
  ·exact .inl rfl
  ·rw [List.mem_singleton.mp hy]
   exact .inl rfl
 ·subst he
  refine ⟨S.base.noLimit.keeps X.toInCall.keep,codeH_func ?_⟩
  refine xEE X.toInCall.same fun h₁ tk₁ q'1=>?_;subst q'1
  have hns:=X.toInCall.ns
  have hkeep:=X.toInCall.keep
  have hL:(parseEnv s.heap.objs.size).locals=s.heap.objs.size:=rfl
  have hsz:s.heap.objs.size≤h₁.objs.size:=Nat.le_of_lt (Heap.Ns.lt (hL ▸ hns))
  have T:Step ad.tabs [] μ s.heap μ h₁:=.grow hsz hkeep
  have S₁:Sim w ad μ st h₁:=S.grow hsz hkeep
  have zip:All2 (LB μ h₁) [(("cls":Str),V.lit (.ref 203)),(("text":Str),.str x)] [(("cls":Str),.ref 203),(("text":Str),.str x t)]:=.cons ⟨rfl,.lit _⟩ (.cons ⟨rfl,.str x t⟩ .nil)
  have zn:([(("cls":Str),V.lit (.ref 203)),(("text":Str),.str x)].map (·.1)).Nodup:=by show [("cls":Str),("text":Str)].Nodup;decide
  have hi:∀ {b:Addr},s.heap.objs.size≤b→b∉muts μ:=fun hb q=>absurd (muts_lt S q) (Nat.not_lt.mpr hb)
  have ht:∀ {b:Addr},s.heap.objs.size≤b→b∉ad.tabs:=fun hb q=>absurd (S.base.tabs _ q).1 (Nat.not_lt.mpr (Nat.le_trans S.base.size hb))
  have hcells:(parseEnv s.heap.objs.size).cells=[]:=rfl
  have F:Frame ad μ h₁ (parseEnv s.heap.objs.size) [(("cls":Str),V.lit (.ref 203)),(("text":Str),.str x)]:=by
   refine ⟨rfl,rfl,rfl,⟨_,hns,fun x v e kk=>bindL_get zip zn e kk⟩,fun x v e kk=>?_,fun x d hm=>?_,X.apart,hi (Nat.le_refl _),ht (Nat.le_refl _),S.base.size⟩
   ·exfalso
    have hm:=mem_lookup e
    simp only [List.mem_cons,List.not_mem_nil,or_false,Prod.mk.injEq] at hm
    have k1:(parseEnv s.heap.objs.size).kindOf ("cls":Str)=some .local:=rfl
    have k2:(parseEnv s.heap.objs.size).kindOf ("text":Str)=some .local:=rfl
    rcases hm with ⟨rfl,_⟩ | ⟨rfl,_⟩
    ·have kk:(parseEnv s.heap.objs.size).kindOf ("cls":Str)=some .cell∨(parseEnv s.heap.objs.size).kindOf ("cls":Str)=some .free:=kk
     rw [k1] at kk;rcases kk with kk | kk <;> exact absurd kk (by decide)
    ·have kk:(parseEnv s.heap.objs.size).kindOf ("text":Str)=some .cell∨(parseEnv s.heap.objs.size).kindOf ("text":Str)=some .free:=kk
     rw [k2] at kk;rcases kk with kk | kk <;> exact absurd kk (by decide)
   ·rw [hcells] at hm;exact memnil hm
  have hO:own (parseEnv s.heap.objs.size)=[s.heap.objs.size]:=rfl
  have HO:HOut ad μ s.heap A:=⟨l,hl,HL⟩
  have hAd:=hA.deeper (parseEnv s.heap.objs.size)
  refine xEEEE (parse_star (w:=w) (ad:=ad) (r:=r) (st:=st) (L:=s.heap.objs.size) N hx hn) fun e p sp cp r'1=>?_;refine xEA r'1 fun rp hbody K=>?_
  show wpH _ _ (execs (fBody (methAt 6 0)) _) _ _ _
  rw [hbody]
  refine wpH_execs_cons (wpH_Return_some ?_)
  rw [eval_Call_Name]
  refine wpH_bind (wpH_of ((TE.name (st:=st) (r:=r + 8) (x:="cls") rfl (.inl rfl):TE w ad (r + 8) (parseEnv s.heap.objs.size) _ st _ (.lit (.ref 203)) st) _ _ _ μ _ hAd S₁ F fun mv h₂ tk₂ μ₂ T₂ S₂ F₂ rv=>?_))
  obtain rfl:=rv.litE
  refine callWithH_of (P:=fun h=>(fragK w).In h) (fun h X=>(Keeps1.of (by kernel_rfl):Keeps1 w (.ref 203)) h X) ?_
  show wpAny _ _ (evalArgs (.ref 203) true [(true,(do let v ← eval e (parseEnv s.heap.objs.size);standAt cp;pure v))] []) _ _ _
  refine ks_lone ?_
  refine K _ _ _ μ₂ _ hAd S₂ F₂ fun mvs h₃ tk₃ μ₃ T₃ S₃ F₃ rvs=>⟨S₃.base.frag,?_⟩
  have T03:Step ad.tabs [] μ s.heap μ₃ h₃:=(T.trans0 T₂).trans0 T₃
  rcases hps with ⟨a,b,e1,ok⟩ | ⟨a,e1,no⟩
  ·rw [e1] at rvs S₃
   refine rvs.e2 fun _ _ ra rb=>?_
   refine wpH_of (pair_call (r:=r + 4) N.plain hAd S₃ ra rb fun mv h₄ tk₄ μ₄ T₄ S₄ rv=>?_)
   refine ok mv h₄ tk₄ μ₄ (T03.trans0 T₄) (by simpa using S₄) (by simpa using rv)
  ·rw [e1] at rvs S₃
   refine rvs.e1 fun _ ra=>?_
   refine pair_refuse S₃.base hAd.handled fun h₄ q tk₄ v mk z3=>?_
   have HI:HIn ad μ h₁ (parseEnv s.heap.objs.size) (A.deeper (parseEnv s.heap.objs.size)):=HO.deeper S T rfl rfl (fun b hb=>by rw [hO] at hb;rw [List.mem_singleton.mp hb];exact Nat.le_refl _)
   have HI3:HIn ad μ₃ h₃ (parseEnv s.heap.objs.size) (A.deeper (parseEnv s.heap.objs.size)):=HI.up S₁ F ((T₂.trans0 T₃).wide)
   have hfr:(A.deeper (parseEnv s.heap.objs.size)).frames=some (parseEnv s.heap.objs.size :: l):=Around.frames_deeper hl
   refine xEA (HI3.out F₃) fun l' hl' HF=>?_
   rw [hfr] at hl';obtain rfl:=Option.some.inj hl'
   have FF:=funFrames_of (as:=(parseEnv s.heap.objs.size :: l).filterMap (·.frame)) HF fun e he L f=>List.mem_filterMap.mpr ⟨e,he,f⟩
   have D:FrD ad μ₃ h₃ ((parseEnv s.heap.objs.size :: l).filterMap (·.frame)):=fun b hb=>by
    refine xEA (List.mem_filterMap.mp hb) fun e he f=>?_
    refine xAEAAAAEEEA (HF e he) fun _ L f' n0 m _ o es n ho hd=>?_
    rw [f] at f';obtain rfl:=Option.some.inj f'
    exact ⟨n0,m,o,es,n,ho,hd⟩
   refine wpAny_sized (wpAny_leaves_madeW (h:=h₃) hfr rfl (fun b o e=>of_hideAll _ e) FF (Heap.MadeExcOf.mk mk.keeps mk.new mk.there) fun h' t x1 _ _ x4 hz=>?_)
   exact no q h₃ h' tk₄ μ₃ _ T03 S₃ D ⟨_,x1,(Heap.UpToSlots.of_keeps mk.keeps).trans x4,Nat.le_trans z3 hz⟩
theorem methodH_call {A:Around} {R:Result→Shared→Prop} {s:Shared} {p:Addr} {f self:Value} {pos:List Value} {kw:List (Str × Value)} (ho:s.heap.get? p=some (methodObj f self))
  (h:codeH (model prog w) A (.call f ⟨self :: pos,kw⟩) R s):codeH (model prog w) A (.call (.ref p) ⟨pos,kw⟩) R s:=by
 obtain ⟨hh,g,dr,t,os⟩:=s
 refine codeH_of_tree (wpH_of ?_)
 show wpAny _ _ (callAny (.ref p) _) _ _ _
 dsimp only at ho
 refine nd_load ho ?_
 cases f <;> exact wpAny_pure ⟨rfl,h⟩
noncomputable def Cut (x:Str):Option (Str × Str)→Prop
 | some (a,b)=>Txt.splitMax x ("=":Str) 1=[a,b]
 | none=>∃ a,Txt.splitMax x ("=":Str) 1=[a]
noncomputable def cutV (n:Nat):Option (Str × Str)→V
 | some _=>.ref (n + 1)
 | none=>.none
noncomputable def cutSt (x:Str):Option (Str × Str)→St
 | some (a,b)=>[.list [.str a,.str b],.pair (.str (Txt.strip a)) (.str (Txt.strip b))]
 | none=>[.list ((Txt.splitMax x ("=":Str) 1).map V.str)]
theorem THS1.tryParse {x:Str} {y:Option (Str × Str)} {p1 p2 p3 p4 p5 p6 p7 p8 p9 p10:Pos} {k:Nat} (N:Names ad) (hx:x.length + 2≤sizeLine) (hc:Cut x y) (ht:loc.lookup ("text":Str)=some (.str x))
  (hk:env.kindOf ("text":Str)=some .local) (hkP:env.kindOf ("Pair":Str)=some .globalImplicit) (hkT:env.kindOf ("TypeError":Str)=some .globalImplicit)
  (hE:∃ pl,eval (.Call (.Attribute (.Name "Pair" p1) "parse" p2) [.Name "text" p3] [] p4) env=(do
   let ov ← eval (.Name "Pair" p1) env
   standAt p2.atName
   let (f,first) ← holding [ov] (getMethod ov "parse" pl)
   callWith p4 f first (backTo p4 (starEach [.Name "text" p3] env)) (backToKw p4 (keywordEach [] env))):=by exact ⟨_,by with_unfolding_all rfl⟩) :
  THS1 w ad (r + 9) env loc st (.Try [.Return (some (.Call (.Attribute (.Name "Pair" p1) "parse" p2) [.Name "text" p3] [] p4)) p5] [.ExceptHandler (some (.Name "TypeError" p6)) none [.Return (some (.Constant .none k p7)) p8] p9] [] [] p10)
   (some (cutV st.length y)) loc (st++cutSt x y):=by
 intro A E s μ Q hA HI S F h
 refine xE hE fun pl hE=>?_
 refine wpH_Try_except (wpH_execs_cons (wpH_Return_some ?_))
 rw [hE]
 have N':TE w ad (r + 9) env loc st (.Name "Pair" p1) (.lit (.ref 203)) st:=TE.nameG N.pair hkP
 refine wpH_bind (wpH_of (N' _ _ _ μ _ hA S F fun mv h₁ tk₁ μ₁ T₁ S₁ F₁ rv=>?_))
 obtain rfl:=rv.litE
 refine wpH_bind (wpH_standAt ?_)
 have X:=S₁.base.frag
 refine wpH_bind (wpH_holding (wpH_of (method_cls X (by kernel_rfl) ?_)))
 refine clsK_get X S₁.base.noThird (by kernel_rfl) (g:=.builtin "classmethod.__get__") (a:=.ref 199) (obj:=.none) (tp:=.ref 203) (by kernel_rfl) ?_
 refine wpAny_call (cm_get (p:=199) (C:=203) X (f:=.ref 197) (rest:=[.bool false]) (by kernel_rfl) (handed_on rfl ?_))
 have T₂:Step ad.tabs [] μ₁ h₁ μ₁ (h₁.push (methodObj (.ref 197) (.ref 203))):=.push _
 have S₂:=S₁.push (methodObj (.ref 197) (.ref 203))
 have F₂:=F₁.up S₁ T₂
 have hq:(h₁.push (methodObj (.ref 197) (.ref 203))).get? h₁.objs.size=some (methodObj (.ref 197) (.ref 203)):=Heap.get?_push_size _ rfl
 have hqm:h₁.objs.size∉muts μ₁:=fun q=>absurd (muts_lt S₁ q) (Nat.lt_irrefl _)
 have hqt:h₁.objs.size∉ad.tabs:=fun q=>absurd (S₁.base.tabs _ q).1 (Nat.not_lt.mpr S₁.base.size)
 show wpH _ _ (callWith p4 (.ref h₁.objs.size) [] (backTo p4 (starEach [.Name "text" p3] env)) []) _ _ _
 refine callWithH_of (P:=MethP (fragK w) h₁.objs.size 197 (.ref 203)) (fun h P=>keeps_M (by kernel_rfl) h P) ?_
 have TL':TL w ad (r + 9) env loc st [.Name "text" p3] [.str x] st:=TL.cons (ns rfl) (TE.name ht (.inl hk)) TL.nil
 rw [show starEach [.Name "text" p3] env=(false,eval (.Name "text" p3) env) :: starEach [] env from rfl]
 refine PySem.Calls.evalArgs_plain ?_
 have TL'':=TL' p4
 rw [show starEach [.Name "text" p3] env=(false,eval (.Name "text" p3) env) :: starEach [] env from rfl] at TL''
 refine TL'' _ _ _ μ₁ _ hA S₂ F₂ fun mvs h₃ tk₃ μ₃ T₃ S₃ F₃ rvs=>?_
 have hq3:h₃.get? h₁.objs.size=some (methodObj (.ref 197) (.ref 203)):=(T₃.keep _ _ hq (fun q=>nomatch q) hqm hqt).exact fun es n q=>by cases q
 refine ⟨⟨hq3,S₃.base.frag⟩,?_⟩
 refine rvs.e1 fun _ ra=>?_
 refine ra.str_ fun t=>?_
 have T03:Step ad.tabs [] μ s.heap μ₃ h₃:=(T₁.trans0 T₂).trans0 T₃
 refine xEA ((HI.up S F T03.wide).out F₃) fun l hl HL=>?_
 refine xEAAA (HI.up S F T03.wide) fun outer hfr hfe HFo hno=>?_
 rw [hfr] at hl;obtain rfl:=Option.some.inj hl
 refine wpH_call (methodH_call hq3 ?_)
 refine parse_code (r:=r) (st:=st) (l:=env :: outer) N hA hfr HL S₃ hx ?_
 rcases y with _ | ⟨a,b⟩
 ·refine xE hc fun a ha=>?_
  refine .inr ⟨a,ha,fun e h4 h5 tk μ4 fs T4 S4 D4 ⟨a0,hfl,hup,hz⟩=>?_⟩
  refine wpAny_sized (wpAny_looks_onW hfr hfe hfl fun h6 held6 up6 z6=>?_)
  refine wpAny_sized (wpAny_landsW held6 fun h7 fl7 up7 z7=>?_)
  refine xA (S4.landed D4 (Nat.le_trans hz (Nat.le_trans z6 z7)) fl7.1 ((hup.trans up6).trans up7)) fun S7 T7=>?_
  have F7:=(F₃.up S₃ T4).up S4 T7
  refine xEA fl7.there fun ob hob hobc=>?_
  refine wpAny_handleBy_builtin (X:="TypeError") (T:="TypeError") (b:=true) (by rw [isSubtype_type];kernel_rfl) (by rw [isSubtype_type];kernel_rfl) (by rw [isSubtype_type];kernel_rfl) ?_
  refine xEA (S7.base.builtin (x:="TypeError") (by decide)) fun mb nb eb=>?_
  refine Name_function_global F7.fn hkT (loadGlobal_builtin (F7.gl ▸ S7.base.ns) N.tyerr (F7.bl ▸ nb) (eb.trans (by rfl:bootBuiltins "TypeError"=some (.type "TypeError"))) ?_) (by decide)
  refine ⟨rfl,⟨ob,hob,hobc⟩,?_⟩
  rw [if_pos rfl]
  refine wpAny_sized (lands_againW fl7 fun h8 fl8 up8 z8=>?_)
  refine xA (S4.landed D4 (Nat.le_trans hz (Nat.le_trans z6 (Nat.le_trans z7 z8))) fl8.1 (((hup.trans up6).trans up7).trans up8)) fun S8 T8=>?_
  have F8:=(F₃.up S₃ T4).up S4 T8
  refine wpAny_noRaise (wpAny_execs_cons (wpAny_Return_some (wpAny_pure ?_)))
  refine h _ h8 tk μ4 ((T03.trans0 T4).trans0 T8).wide ?_ F8 ⟨.none,rfl,.none⟩
  show Sim w ad μ4 (st++[.list ((Txt.splitMax x ("=":Str) 1).map V.str)]) h8
  rw [ha];exact S8
 ·refine .inl ⟨a,b,hc,fun mv h4 tk μ4 T4 S4 rv=>?_⟩
  exact h _ h4 tk μ4 (T03.trans0 T4).wide S4 (F₃.up S₃ T4) ⟨mv,rfl,rv⟩
theorem TCH.parsed {a:Addr} {x:Str} {y:Option (Str × Str)} (N:Names ad) (hf:FnAt ad "_law_parsed" 26 a) (hx:x.length + 2≤sizeLine) (hc:Cut x y) :
  TCH w ad (r + 10) a st [.str x] (cutV st.length y) (st++cutSt x y):=by
 refine TCH.def (ps:=["text"]) hf ?b (by decide) rfl ?k (by decide) ?m
 case b =>
  intro pm cd
  exact len1 fun _=>rfl
 case k =>
  intro x hx
  rw [List.mem_singleton.mp hx]
  exact .inl rfl
 case m =>
  intro pm cd L
  exact THR.stop (THS1.tryParse N hx hc rfl rfl rfl rfl)
noncomputable def rng (lo hi:Nat):List Int:=(List.range (hi - lo)).map fun (i:Nat)=>((lo + i:Nat):Int)
noncomputable def b1L:List Int:=[173,847,6150,6155,6156,6157,8203,8204,8205,8288,65279]++rng 65024 65040
noncomputable def c6L:List Int:=rng 65529 65534
noncomputable def c7L:List Int:=rng 12272 12284
noncomputable def c8L:List Int:=[832,833,8206,8207]++rng 8234 8239++rng 8298 8304
noncomputable def c9L:List Int:=[917505]++rng 917536 917632
noncomputable def inL (l:List Int) (k:Int):Bool:=l.contains k
noncomputable def constI:Expr→Int
 | .Constant (.int i) _ _=>i
 | _=>0
noncomputable def constS:Expr→Str
 | .Constant (.str x) _ _=>x
 | _=>""
noncomputable def dictL:Stmt→List (Int × Str)
 | .Assign _ (.Dict ks vs _) _=>ks.zipWith (fun k v=>((k.map constI).getD 0,constS v)) vs
 | _=>[]
noncomputable def b3L:List (Int × Str):=dictL (stAt 10)
noncomputable def b3look (k:Int):Option Str:=b3L.lookup k
structure Globs (w:World) (ad:Adr):Prop extends Names ad where
 tab:ad.tabR≠100
 b1:∃ a,FnAt ad "in_table_b1" 9 a
 b3:∃ a,FnAt ad "map_table_b3" 11 a
 c4:∃ a,FnAt ad "in_table_c4" 12 a
 c6:∃ a,FnAt ad "in_table_c6" 14 a
 c7:∃ a,FnAt ad "in_table_c7" 16 a
 c8:∃ a,FnAt ad "in_table_c8" 18 a
 c9:∃ a,FnAt ad "in_table_c9" 20 a
 spellings:∃ a,FnAt ad "_law_spellings" 22 a
 field:∃ a,FnAt ad "_law_field" 23 a
 row:∃ a,FnAt ad "_law_row" 24 a
 prepared:∃ a,FnAt ad "_law_prepared" 25 a
 parsed:∃ a,FnAt ad "_law_parsed" 26 a
 peeled:∃ a,FnAt ad "_law_peeled" 27 a
 forbidden:∃ a,FnAt ad "_law_forbidden" 28 a
 down:∃ a,FnAt ad "_law_down" 30 a
 read:∃ a,FnAt ad "_law_read" 31 a∧∃ o pm,ad.hb.get? a=some o∧o.data=.func (fdAt 31 "_law_read" pm (.ref ad.codeR))
 told:∃ a,FnAt ad "_law_told" 32 a
 frozen:∃ a,FnAt ad "_law_frozen" 33 a
 due:∃ a,FnAt ad "_law_due" 34 a
 heads:∃ a,FnAt ad "_law_heads" 35 a
 refused:∃ a,FnAt ad "_law_refused_right" 36 a
 lost:∃ a,FnAt ad "_law_lost" 37 a
 law:∃ a,FnAt ad "law" 38 a
 sb1:SetTop w ad "b1_set" (inL b1L)
 sc6:SetTop w ad "c6_set" (inL c6L)
 sc7:SetTop w ad "c7_set" (inL c7L)
 sc8:SetTop w ad "c8_set" (inL c8L)
 sc9:SetTop w ad "c9_set" (inL c9L)
 db3:DictTop w ad "b3_exceptions" b3look
theorem TC.inTable {nm sn:Str} {i:Nat} {a:Addr} {S:Int→Bool} {c:Nat} {p1 p2 p3 p4 p5 p6:Pos} (N:Names ad) (hf:FnAt ad nm i a) (hS:SetTop w ad sn S)
  (hb:fBody (stAt i)=[.Return (some (.Compare (.Call (.Name "ord" p1) [.Name "code" p2] [] p3) [.In] [.Name sn p4] p5)) p6])
  (hbind:∀ (pm cd:Value) (xs:List Value),xs.length=1→bindArgs (fdAt i nm pm cd) ⟨xs,[]⟩=pure ([("code":Str)].zip xs))
  (hk:(fScope (stAt i)).names.lookup ("code":Str)=some .local) (hk1:(fScope (stAt i)).names.lookup ("ord":Str)=some .globalImplicit) (hk2:(fScope (stAt i)).names.lookup sn=some .globalImplicit) (hc:cellsFrom 0 (fScope (stAt i)).names []=[]) (hdd:(sn == ("__debug__":Str))=false)
  (hco:(fScope (stAt i)).isCoroutine=false:=by rfl) (hgen:(fScope (stAt i)).isGenerator=false:=by rfl) (hkk:(fScope (stAt i)).kind=.function:=by rfl) :
  TC w ad (r + 4) a st [.str ⟨#[c]⟩] (.bool (S c)) st:=by
 refine xEEAA hS fun sa n hm hat H=>?_
 refine TC.def (ps:=["code"]) hf hbind (by decide) rfl ?k (by rw [hc];exact .nil) ?m hco hgen hkk
 case k =>
  intro x hx
  rw [List.mem_singleton.mp hx]
  exact .inl hk
 case m =>
  intro pm cd L
  rw [hb]
  exact TR.ret (TE.cmp (TE.callB (by rfl) N.ord (by decide) hk1 (TL.cons (ns rfl) (TE.name rfl (.inl hk)) TL.nil) TO.ord) (TE.nameG hm hk2 hdd) (TO2.inSet hat H))
theorem TC.b1 {a:Addr} {c:Nat} (G:Globs w ad) (hf:FnAt ad "in_table_b1" 9 a):TC w ad (r + 4) a st [.str ⟨#[c]⟩] (.bool (inL b1L c)) st :=
 TC.inTable G.toNames hf G.sb1 rfl (fun pm cd=>len1 fun _=>rfl) rfl rfl rfl rfl (by decide)
theorem TC.c6 {a:Addr} {c:Nat} (G:Globs w ad) (hf:FnAt ad "in_table_c6" 14 a):TC w ad (r + 4) a st [.str ⟨#[c]⟩] (.bool (inL c6L c)) st :=
 TC.inTable G.toNames hf G.sc6 rfl (fun pm cd=>len1 fun _=>rfl) rfl rfl rfl rfl (by decide)
theorem TC.c7 {a:Addr} {c:Nat} (G:Globs w ad) (hf:FnAt ad "in_table_c7" 16 a):TC w ad (r + 4) a st [.str ⟨#[c]⟩] (.bool (inL c7L c)) st :=
 TC.inTable G.toNames hf G.sc7 rfl (fun pm cd=>len1 fun _=>rfl) rfl rfl rfl rfl (by decide)
theorem TC.c8 {a:Addr} {c:Nat} (G:Globs w ad) (hf:FnAt ad "in_table_c8" 18 a):TC w ad (r + 4) a st [.str ⟨#[c]⟩] (.bool (inL c8L c)) st :=
 TC.inTable G.toNames hf G.sc8 rfl (fun pm cd=>len1 fun _=>rfl) rfl rfl rfl rfl (by decide)
theorem TC.c9 {a:Addr} {c:Nat} (G:Globs w ad) (hf:FnAt ad "in_table_c9" 20 a):TC w ad (r + 4) a st [.str ⟨#[c]⟩] (.bool (inL c9L c)) st :=
 TC.inTable G.toNames hf G.sc9 rfl (fun pm cd=>len1 fun _=>rfl) rfl rfl rfl rfl (by decide)
theorem TO2.inTup {c x:V} {xs:List PyData} {d:PyData} (hc:Deep st c (.tuple xs)) (hx:Deep st x d) (hxs:PyData.canLayAll0 xs=true) (hd:d.canLay0=true) (hu:d.depth≤20) :
  TO2 w ad r st (compareOp .In) x c (.bool (xs.any fun y=>PyData.eqv y d)) st:=by
 intro A E s μ a b Q hA S ra rb k
 refine xE (hc.reads S rb) fun as p=>?_
 refine xE (hx.reads S ra) fun bs q=>?_
 exact SeqAt.in_tuple_reads p q hxs hd (hA.cline (d:=d) (Nat.le_trans (Nat.min_le_right _ _) hu)) (k _ _ s.toks μ .refl S (.bool _))
theorem TO2.band {a b:Int}:TO2 w ad r st (binaryOp .BitAnd) (.int a) (.int b) (.int (Builtin.bitAnd a b)) st:=.int fun _ _ _ _ _ _ h=>PyProof.Rows.and_int h
theorem TB.val {t:Sem Bool} {b b':Bool} (T:TB w ad r env loc st t b' st₁) (h:b'=b):TB w ad r env loc st t b st₁:=h ▸ T
theorem TE.val {e:Expr} {v v':V} (T:TE w ad r env loc st e v' st₁) (h:v'=v):TE w ad r env loc st e v st₁:=h ▸ T
theorem TE.end {e:Expr} {v:V} {st':St} (T:TE w ad r env loc st e v st') (h:st'=st₁):TE w ad r env loc st e v st₁:=h ▸ T
theorem TO2.val {f:Value→Value→Sem Value} {a b v v':V} (T:TO2 w ad r st f a b v' st₁) (h:v'=v):TO2 w ad r st f a b v st₁:=h ▸ T
noncomputable def inC4 (c:Int):Bool:=if c < 64976 then false else if c < 65008 then true else (65534 == Builtin.bitAnd c 65535 || 65535 == Builtin.bitAnd c 65535)
theorem TC.c4 {a:Addr} {c:Nat} (G:Globs w ad) (hf:FnAt ad "in_table_c4" 12 a):TC w ad (r + 4) a st [.str ⟨#[c]⟩] (.bool (inC4 c)) st:=by
 refine TC.def (ps:=["code"]) hf (fun pm cd=>len1 fun _=>rfl) (by decide) rfl (fun x hx=>by rw [List.mem_singleton.mp hx];exact .inl rfl) (by decide) ?m
 intro pm cd L
 refine TR.cons (TS1.assign (TE.callB (by rfl) G.ord (by decide) rfl (TL.cons (ns rfl) (TE.name rfl (.inl rfl)) TL.nil) TO.ord) (.inl rfl) (fun h=>by cases h)) ?_
 unfold inC4
 by_cases h1:(c:Int) < 64976
 ·rw [if_pos h1]
  exact TR.stop (TS1.ifT (TB.val (TB.cmp (TE.name rfl (.inl rfl)) TE.int TO2.lt) (decide_eq_true h1)) (TS.stop (TS1.ret TE.bool)))
 ·rw [if_neg h1]
  refine TR.cons (TS1.ifF (TB.val (TB.cmp (TE.name rfl (.inl rfl)) TE.int TO2.lt) (decide_eq_false h1)) TS.nil) ?_
  by_cases h2:(c:Int) < 65008
  ·rw [if_pos h2]
   exact TR.stop (TS1.ifT (TB.val (TB.cmp (TE.name rfl (.inl rfl)) TE.int TO2.lt) (decide_eq_true h2)) (TS.stop (TS1.ret TE.bool)))
  ·rw [if_neg h2]
   refine TR.cons (TS1.ifF (TB.val (TB.cmp (TE.name rfl (.inl rfl)) TE.int TO2.lt) (decide_eq_false h2)) TS.nil) ?_
   refine TR.ret (TE.cmp (TE.bin (TE.callB (by rfl) G.ord (by decide) rfl (TL.cons (ns rfl) (TE.name rfl (.inl rfl)) TL.nil) TO.ord) TE.int TO2.band) (TE.tup2 (TL.cons (ns rfl) TE.int (TL.cons (ns rfl) TE.int TL.nil))) (TO2.val (TO2.inTup (.tup2 (.int _) (.int _)) (.int _) rfl rfl (Nat.le_of_ble_eq_true rfl)) ?_))
   simp [PyData.eqv]
end Mine
namespace Mine
open PySem PySem.W PySem.Calls PyProof.Rows PySem.Builtin PySem.Builtin.Str
variable {w : World} {ad : Adr} {r : Nat} {st st₁ st₂ st₃ : St} {env : Env} {loc loc₁ loc₂ loc₃ : Loc}
noncomputable def lowF (c:Nat):Str:=⟨placed ⟨#[c]⟩ fun i _=>Unicode.lowerAt (⟨#[c]⟩:Str).cps i⟩
noncomputable def b3F (c:Nat):Str:=match b3look c with
 | some x=>x
 | none=>lowF c
noncomputable def okB3 (c:Nat):Bool:=!tooLong (lowF c).cps.size
theorem TC.b3 {a:Addr} {c:Nat} (G:Globs w ad) (hf:FnAt ad "map_table_b3" 11 a) (ho:okB3 c=true):TC w ad (r + 4) a st [.str ⟨#[c]⟩] (.str (b3F c)) st:=by
 refine xEEAAA G.db3 fun da f hm hat hs r'1=>?_;refine xA r'1 fun H hl=>?_
 refine TC.def (ps:=["code"]) hf (fun pm cd=>len1 fun _=>rfl) (by decide) rfl (fun x hx=>by rw [List.mem_singleton.mp hx];exact .inl rfl) (by decide) ?m
 intro pm cd L
 refine TR.cons (TS1.assign (TE.meth (TE.nameG hm rfl) (TM.dictTop hat H) Keeps1.builtin (TL.cons (ns rfl) (TE.callB (by rfl) G.ord (by decide) rfl (TL.cons (ns rfl) (TE.name rfl (.inl rfl)) TL.nil) TO.ord) TL.nil) (TO.dictGet hat hs H hl)) (.inl rfl) (fun h=>by cases h)) ?_
 unfold b3F
 cases hb:b3look c with
 | some x =>
  exact TR.stop (TS1.ifT (TB.cmp (TE.name rfl (.inl rfl)) TE.cnone TO2.strIsNot) (TS.stop (TS1.ret (TE.name rfl (.inl rfl)))))
 | none =>
  refine TR.cons (TS1.ifF (TB.cmp (TE.name rfl (.inl rfl)) TE.cnone TO2.noneIsNot) TS.nil) ?_
  refine TR.ret (TE.meth0 (TE.name rfl (.inl rfl)) (TM.str F.slot_str_lower F.type_str_lower) Keeps1.builtin (TO.lower ?_))
  simpa [okB3,lowF] using ho
noncomputable def spell:List (List Str):=[["a","A",⟨#[119808]⟩,⟨#[119964]⟩],["ss","sS","ß","ſS"],["ffi","ﬃ","ﬀI","Fﬁ"],["σ","ς","Σ",⟨#[120531]⟩]]
noncomputable def strsO (l:List Str):MObj:=.list (l.map V.str)
noncomputable def spellSt (n:Nat):St:=[strsO ["a","A",⟨#[119808]⟩,⟨#[119964]⟩],strsO ["ss","sS","ß","ſS"],strsO ["ffi","ﬃ","ﬀI","Fﬁ"],strsO ["σ","ς","Σ",⟨#[120531]⟩],.list [.ref n,.ref (n + 1),.ref (n + 2),.ref (n + 3)]]
theorem TR.val {ss:List Stmt} {v v':V} {st':St} (T:TR w ad r env loc st ss v' st') (h:v'=v) (h':st'=st₁):TR w ad r env loc st ss v st₁:=h ▸ h' ▸ T
set_option maxHeartbeats 1000000 in
theorem TC.spellings {a:Addr} (G:Globs w ad) (hf:FnAt ad "_law_spellings" 22 a):TC w ad (r + 4) a st [] (.ref (st.length + 4)) (st++spellSt st.length):=by
 refine TC.def (ps:=[]) hf (fun pm cd=>len0 rfl) (by decide) rfl (fun x hx=>by exact memnil hx) (by decide) ?m
 intro pm cd L
 have h4:4≤sizeLine:=by decide
 refine TR.val (TR.ret (TE.list (TL.cons (ns rfl) (TE.list (TL.cons (ns rfl) TE.cstr (TL.cons (ns rfl) TE.cstr (TL.cons (ns rfl) (TE.callB (by rfl) G.chr (by decide) rfl (TL.cons (ns rfl) TE.int TL.nil) (TO.chr (by decide) (by decide))) (TL.cons (ns rfl) (TE.callB (by rfl) G.chr (by decide) rfl (TL.cons (ns rfl) TE.int TL.nil) (TO.chr (by decide) (by decide))) TL.nil)))) h4)
  (TL.cons (ns rfl) (TE.list (TL.cons (ns rfl) TE.cstr (TL.cons (ns rfl) TE.cstr (TL.cons (ns rfl) TE.cstr (TL.cons (ns rfl) TE.cstr TL.nil)))) h4)
  (TL.cons (ns rfl) (TE.list (TL.cons (ns rfl) TE.cstr (TL.cons (ns rfl) TE.cstr (TL.cons (ns rfl) TE.cstr (TL.cons (ns rfl) TE.cstr TL.nil)))) h4)
  (TL.cons (ns rfl) (TE.list (TL.cons (ns rfl) TE.cstr (TL.cons (ns rfl) TE.cstr (TL.cons (ns rfl) TE.cstr (TL.cons (ns rfl) (TE.callB (by rfl) G.chr (by decide) rfl (TL.cons (ns rfl) TE.int TL.nil) (TO.chr (by decide) (by decide))) TL.nil)))) h4) TL.nil)))) h4)) ?_ ?_
 ·simp
 ·simp [spellSt,strsO]
theorem TO2.fdivN {n k:Nat} {b:Int} (hb:b=(k:Int)) (h0:0 < k) (hk:k < 1073741824):TO2 w ad r st (binaryOp .FloorDiv) (.int (n:Nat)) (.int b) (.int (n / k:Nat)) st:=by
 subst hb
 refine TO2.val (TO2.fdiv (by omega) (by simpa using hk)) ?_
 congr 1
 rw [Int.fdiv_eq_ediv_of_nonneg _ (by omega)]
 exact (Int.natCast_ediv n k).symm
theorem TO2.modN {n k:Nat} {b:Int} (hb:b=(k:Int)) (h0:0 < k):TO2 w ad r st (binaryOp .Mod) (.int (n:Nat)) (.int b) (.int (n % k:Nat)) st:=by
 subst hb
 refine TO2.val (TO2.mod (by omega)) ?_
 congr 1
 rw [Int.fmod_eq_emod_of_nonneg _ (by exact Int.natCast_nonneg _)]
 exact (Int.natCast_emod n k).symm
theorem SubOk.listN {value slice:Expr} {n:Nat} {l:List V} {i:Nat} {v:V} (hs:st[n]?=some (.list l)) (h1:i < 2 ^ 62) (hv:l[i]?=some v)
  (hsub:∀ (a:Addr) (i:Int) (u:Tok),subscripted slice false (.ref a) (.int i u)=operate [.ref a,.int i u] (getItem (.ref a) (.int i u)):=by intro _ _ _;rfl):SubOk w ad r st value slice (.ref n) (.int (i:Nat)) v st :=
 SubOk.list hs (Int.natCast_nonneg _) (by have:(i:Int) < (2:Int) ^ 62:=(by exact_mod_cast h1);omega) (by simpa using hv) fun a u=>hsub a _ u
noncomputable def blanks:List Str:=[""," ","\t\u3000","\u0085 "]
noncomputable def hiddens:List Str:=["","\u200b","\u00ad\u2060","️"]
noncomputable def fieldF (forms:List Str) (n:Nat) (sign:Str):Str :=
 ((((blanks.getD (n / 64 % 4) ""++hiddens.getD (n / 4 % 4) "")++forms.getD (n % 4) "")++sign)++hiddens.getD (n / 16 % 4) "")++blanks.getD (n / 64 % 4) ""
theorem getD_map {l:List Str} {i:Nat} (h:i < l.length):(l.map V.str)[i]?=some (.str (l.getD i "")):=by
 exact mapGetD ‹_›
theorem len_getD {l:List Str} {i k:Nat} (h:∀ x∈l,x.length≤k):(l.getD i "").length≤k:=by
 by_cases hi:i < l.length
 ·have:=h l[i] (List.getElem_mem hi)
  simpa [hi] using this
 ·simp [hi]
  exact Nat.zero_le _
theorem TC.field {a:Addr} {f n:Nat} {forms:List Str} {sign:Str} (G:Globs w ad) (hf:FnAt ad "_law_field" 23 a) (hs:st[f]?=some (strsO forms)) (hl:forms.length=4) (hfl:∀ x∈forms,x.length≤10) (hsg:sign.length≤10) (hn:n < 2 ^ 62) :
  TC w ad (r + 1) a st [.ref f,.int (n:Nat),.str sign] (.str (fieldF forms n sign)) (st++[strsO blanks,strsO hiddens]):=by
 refine TC.def (ps:=["forms","n","sign"]) hf (fun pm cd=>len3 fun _ _ _=>rfl) (by decide) rfl (by decide) (by decide) ?m
 intro pm cd L
 have h4:4≤sizeLine:=by decide
 have hb2:∀ x∈blanks,x.length≤2:=by decide
 have hh2:∀ x∈hiddens,x.length≤2:=by decide
 have l1:(blanks.getD (n / 64 % 4) "").length≤2:=len_getD hb2
 have l2:(hiddens.getD (n / 4 % 4) "").length≤2:=len_getD hh2
 have l3:(forms.getD (n % 4) "").length≤10:=len_getD hfl
 have l4:(hiddens.getD (n / 16 % 4) "").length≤2:=len_getD hh2
 have m4:∀ k:Nat,k % 4 < 4:=fun k=>Nat.mod_lt _ (by decide)
 have big:100≤sizeLine:=by decide
 have small:∀ k:Nat,k % 4 < 2 ^ 62:=fun k=>Nat.lt_trans (m4 k) (by decide)
 refine TR.cons (TS1.assign (TE.sub (TE.list (vs:=blanks.map V.str) (TL.cons (ns rfl) TE.cstr (TL.cons (ns rfl) TE.cstr (TL.cons (ns rfl) TE.cstr (TL.cons (ns rfl) TE.cstr TL.nil)))) h4) (TE.bin (TE.bin (TE.name rfl (.inl rfl)) TE.int (TO2.fdivN rfl (by decide) (by decide))) TE.int (TO2.modN rfl (by decide))) (SubOk.listN (l:=blanks.map V.str) (by exact at0) (small _) (getD_map (m4 _)))) (.inl rfl) (nc rfl)) ?_
 refine TR.cons (TS1.assign (TE.list (vs:=hiddens.map V.str) (TL.cons (ns rfl) TE.cstr (TL.cons (ns rfl) TE.cstr (TL.cons (ns rfl) TE.cstr (TL.cons (ns rfl) TE.cstr TL.nil)))) h4) (.inl rfl) (nc rfl)) ?_
 have hg:((st++[.list (blanks.map V.str)])++[.list (hiddens.map V.str)])[(st++[MObj.list (blanks.map V.str)]).length]?=some (.list (hiddens.map V.str)):=by exact at0
 have hf':((st++[.list (blanks.map V.str)])++[.list (hiddens.map V.str)])[f]?=some (.list (forms.map V.str)):=by
  have:=(List.getElem?_eq_some_iff.mp hs).1
  rw [List.getElem?_append_left (by simp;exact ltS ‹_›),List.getElem?_append_left this];exact hs
 refine TR.val (TR.ret (TE.bin (TE.bin (TE.bin (TE.bin (TE.bin (TE.name rfl (.inl rfl)) (TE.sub (TE.name rfl (.inl rfl)) (TE.bin (TE.bin (TE.name rfl (.inl rfl)) TE.int (TO2.fdivN rfl (by decide) (by decide))) TE.int (TO2.modN rfl (by decide))) (SubOk.listN hg (small _) (getD_map (m4 _)))) (TO2.cat ?c1))
  (TE.sub (TE.name rfl (.inl rfl)) (TE.bin (TE.name rfl (.inl rfl)) TE.int (TO2.modN rfl (by decide))) (SubOk.listN hf' (small _) (getD_map (by rw [hl];exact m4 _)))) (TO2.cat ?c2)) (TE.name rfl (.inl rfl)) (TO2.cat ?c3))
  (TE.sub (TE.name rfl (.inl rfl)) (TE.bin (TE.bin (TE.name rfl (.inl rfl)) TE.int (TO2.fdivN rfl (by decide) (by decide))) TE.int (TO2.modN rfl (by decide))) (SubOk.listN hg (small _) (getD_map (m4 _)))) (TO2.cat ?c4)) (TE.name rfl (.inl rfl)) (TO2.cat ?c5))) ?_ ?_
 case c1=>exact Nat.le_trans (Nat.add_le_add l1 l2) (by decide)
 case c2=>simp only [Str.length_append];omega
 case c3=>simp only [Str.length_append];omega
 case c4=>simp only [Str.length_append];omega
 case c5=>simp only [Str.length_append];omega
 ·rfl
 ·exact List.append_assoc ..
noncomputable def prepL (cs:List Nat):List Str:=(cs.filter fun c:Nat=>!inL b1L (c:Int)).map b3F
noncomputable def prepF (x:Str):Str:=glued "" (prepL x.cps.toList)
theorem TC.prepared {a:Addr} {x:Str} (G:Globs w ad) (hf:FnAt ad "_law_prepared" 25 a) (ho:∀ c∈x.cps.toList,okB3 c=true) (hx:x.length≤sizeLine)
  (hl:tooLong ((prepL x.cps.toList).toArray.foldl (· + ·.length + (Str.length "")) 0)=false) (hg:(prepF x).length≤sizeLine) :
  TC w ad (r + 6) a st [.str x] (.str (prepF x)) (st++[.list ((prepL x.cps.toList).map V.str)]):=by
 refine TC.def (ps:=["text"]) hf (fun pm cd=>len1 fun _=>rfl) (by decide) rfl (by decide) (by decide) ?m
 intro pm cd L
 refine xE G.b1 fun b1a hb1=>?_
 refine xE G.b3 fun b3a hb3=>?_
 refine TR.ret (TE.meth TE.cstr (TM.str F.slot_str_join F.type_str_join) Keeps1.builtin (TL.cons (ns rfl) (TE.comp (capt:=[]) [] (TX.of (TE.name rfl (.inl rfl)) TI.str) ?loop (.inl ⟨rfl,_,_,rfl⟩) rfl (by decide) rfl (by decide) nm .nil nk (by rw [signs_len];exact hx)) TL.nil) (TO.join (ts:=prepL x.cps.toList) (by exact at0) hl hg))
 case loop =>
  intro C
  show CompR _ _ (x.cps.toList.map _) _ ((prepL x.cps.toList).map V.str) _
  clear hl hg hx
  revert ho
  generalize x.cps.toList=cs
  intro ho
  induction cs with
  | nil=>exact .nil trivial
  | cons c cs ih =>
   have ih:=ih fun d hd=>ho d (.tail _ hd)
   cases hc:inL b1L (c:Int) with
   | true =>
    have e:prepL (c :: cs)=prepL cs:=by simp [prepL,hc]
    rw [e]
    refine .skip trivial ⟨_,st,TT.name (.inl rfl) (nc rfl),nk,TF.one (TB.val (TB.not (TB.bool (TE.callG hb1 rfl (TL.cons (ns rfl) (TE.name rfl (.inl rfl)) TL.nil) (TC.b1 G hb1)))) (by rw [hc];rfl)),rfl⟩ ih
   | false =>
    have e:prepL (c :: cs)=b3F c :: prepL cs:=by simp [prepL,hc]
    rw [e]
    refine .take trivial ⟨_,st,TT.name (.inl rfl) (nc rfl),nk,TF.one (TB.val (TB.not (TB.bool (TE.callG hb1 rfl (TL.cons (ns rfl) (TE.name rfl (.inl rfl)) TL.nil) (TC.b1 G hb1)))) (by rw [hc];rfl)),TE.callG hb3 rfl (TL.cons (ns rfl) (TE.name rfl (.inl rfl)) TL.nil) (TC.b3 G hb3 (ho c (.head _)))⟩ ih
noncomputable def sIn (i j:Nat):Stmt:=((fBody (stAt i))[j]?).getD (.Pass default)
noncomputable def forT:Stmt→Expr
 | .For t _ _ _ _=>t
 | _=>default
noncomputable def ifT:Stmt→Expr
 | .If t _ _ _=>t
 | _=>default
noncomputable def forB:Stmt→List Stmt
 | .For _ _ b _ _=>b
 | .While _ b _ _=>b
 | _=>[]
theorem sub_cons {y:Str} {u:V} (h:loc.lookup y=none):∀ x v,loc.lookup x=some v→((y,u) :: loc).lookup x=some v:=fun x v e=>by
 rw [List.lookup_cons]
 by_cases hx:x=y
 ·subst hx;rw [h] at e;exact nsome e
 ·rw [beq_eq_false_iff_ne.mpr hx];exact e
theorem TS1.append {o e:Expr} {apos pos pos':Pos} {st0 g:St} {l:List V} {v:V} (To:TE w ad r env loc st o (.ref st0.length) st₁) (Te:TE w ad r env loc st₁ e v (st0++.list l :: g)) (hst:st₁[st0.length]?=some (.list l)) (hl:l.length < 2 ^ 24) (hns:∀ x p,e≠.Starred x p)
  (hE:∃ pl,eval (.Call (.Attribute o ("append":Str) apos) [e] [] pos) env=(do
   let ov ← eval o env
   standAt apos.atName
   let (f,first) ← holding [ov] (getMethod ov ("append":Str) pl)
   callWith pos f first (backTo pos (starEach [e] env)) (backToKw pos (keywordEach [] env))):=by exact ⟨_,by with_unfolding_all rfl⟩)
  (he:starEach [e] env=(false,eval e env) :: starEach [] env:=by rfl)
  (hi:interactive env=false:=by rfl) (hs:swapsWith (.Call (.Attribute o ("append":Str) apos) [e] [] pos) none pos'.line env=pure false:=by rfl) :
  TS1 w ad r env loc st (.Expr (.Call (.Attribute o ("append":Str) apos) [e] [] pos) pos') none loc (st0++.list (l++[v]) :: g):=by
 have A:=TO.append (w:=w) (ad:=ad) (r:=r) (st:=st0++.list l :: g) (n:=st0.length) (l:=l) (v:=v) (by exact at0) hl
 have e1:(st0++.list l :: g).set st0.length (.list (l++[v]))=st0++.list (l++[v]) :: g:=by exact set0
 rw [e1] at A
 exact TS1.expr (TE.meth To (TM.list hst F.slot_list_append F.type_list_append) Keeps1.builtin (TL.cons hns Te TL.nil) A hE he) hi hs
noncomputable def forbC (c:Nat):List Int:=(if inC4 c then [4] else [])++(if inL c6L c then [6] else [])++(if inL c7L c then [7] else [])++(if inL c8L c then [8] else [])++(if inL c9L c then [9] else [])
noncomputable def forbF (cs:List Nat):List Int:=cs.flatMap forbC
noncomputable def intsO (l:List Int):MObj:=.list (l.map V.int)
theorem TS1.forbIf {tn:Str} {i:Nat} {a:Addr} {k:Int} {kk:Nat} {c:Nat} {S:Int→Bool} {l:List Int} {p1 p2 p3 p4 p5 p6 p7 p8 p9:Pos} (hf:FnAt ad tn i a) (C:∀ st,TC w ad r a st [.str ⟨#[c]⟩] (.bool (S c)) st) (hl:l.length < 2 ^ 24)
  (h1:loc.lookup ("sign":Str)=some (.str ⟨#[c]⟩)) (h2:loc.lookup ("tables":Str)=some (.ref st.length)) (k1:env.kindOf ("sign":Str)=some .local) (k2:env.kindOf ("tables":Str)=some .local) (k3:env.kindOf tn=some .globalImplicit) (hd:(tn == ("__debug__":Str))=false:=by decide)
  (hE:∃ pl,eval (.Call (.Attribute (.Name "tables" p4) ("append":Str) p5) [.Constant (.int k) kk p6] [] p7) env=(do
   let ov ← eval (.Name "tables" p4) env
   standAt p5.atName
   let (f,first) ← holding [ov] (getMethod ov ("append":Str) pl)
   callWith p7 f first (backTo p7 (starEach [.Constant (.int k) kk p6] env)) (backToKw p7 (keywordEach [] env))):=by exact ⟨_,by with_unfolding_all rfl⟩)
  (hi:interactive env=false:=by rfl) (hs:swapsWith (.Call (.Attribute (.Name "tables" p4) ("append":Str) p5) [.Constant (.int k) kk p6] [] p7) none p8.line env=pure false:=by rfl) :
  TS1 w ad r env loc (st++[intsO l]) (.If (.Call (.Name tn p1) [.Name "sign" p2] [] p3) [.Expr (.Call (.Attribute (.Name "tables" p4) ("append":Str) p5) [.Constant (.int k) kk p6] [] p7) p8] [] p9) none loc
   (st++[intsO (l++if S c then [k] else [])]):=by
 have T:TB w ad r env loc (st++[intsO l]) (isTrue (.Call (.Name tn p1) [.Name "sign" p2] [] p3) env (eval (.Call (.Name tn p1) [.Name "sign" p2] [] p3) env)) (S c) (st++[intsO l]) :=
  TB.bool (TE.callG hf k3 (TL.cons (ns rfl) (TE.name h1 (.inl k1)) TL.nil) (C _) rfl hd)
 cases hc:S c with
 | true =>
  rw [hc] at T
  have A:=TS1.append (w:=w) (ad:=ad) (r:=r) (env:=env) (loc:=loc) (st:=st++[intsO l]) (st0:=st) (g:=[]) (l:=l.map V.int) (v:=.int k) (pos':=p8) (apos:=p5) (pos:=p7) (o:=.Name "tables" p4) (e:=.Constant (.int k) kk p6) (TE.name h2 (.inl k2)) TE.int (by exact at0) (by simpa using hl) (ns rfl) hE rfl hi hs
  have e:st++.list (l.map V.int++[.int k]) :: []=st++[intsO (l++if true=true then [k] else [])]:=by simp [intsO]
  rw [e] at A
  exact TS1.ifT T (TS1.cons A TS.nil)
 | false =>
  rw [hc] at T
  have e:st++[intsO l]=st++[intsO (l++if false=true then [k] else [])]:=by simp
  rw [← e]
  exact TS1.ifF T TS.nil
theorem forbC_len (c:Nat):(forbC c).length≤5:=by
 unfold forbC
 repeat' split
 all_goals simp
theorem TC.forbidden {a:Addr} {x:Str} (G:Globs w ad) (hf:FnAt ad "_law_forbidden" 28 a) (hx:x.length≤1000) :
  TC w ad (r + 5) a st [.str x] (.ref st.length) (st++[intsO (forbF x.cps.toList)]):=by
 refine TC.def (ps:=["text"]) hf (fun pm cd=>len1 fun _=>rfl) (by decide) rfl (by decide) (by decide) ?m
 intro pm cd L
 refine xE G.c4 fun a4 h4=>?_
 refine xE G.c6 fun a6 h6=>?_
 refine xE G.c7 fun a7 h7=>?_
 refine xE G.c8 fun a8 h8=>?_
 refine xE G.c9 fun a9 h9=>?_
 refine TR.cons (TS1.assign (TE.list TL.nil (Nat.zero_le _)) (.inl rfl) (nc rfl)) ?_
 refine TR.cons (TS1.for (b:=true) (TX.of (TE.name rfl (.inl rfl)) TI.str) (loc₂:=("tables",.ref st.length) :: List.zip ["text"] [.str x]) (st₂:=st++[intsO (forbF x.cps.toList)]) (fl:=none) ?loop (.inl ⟨rfl,_,_,rfl⟩)) (TR.ret (TE.name rfl (.inl rfl)))
 case loop =>
  show LoopR _ _ (x.cps.toList.map _) _ (st++[intsO []]) _ _ _
  have key:∀ (cs:List Nat) (l:List Int),l.length + 5 * cs.length≤5000→LoopR (Turn w ad (r + 4) (frameEnv 28 "_law_forbidden" pm cd L a) (forT (sIn 28 1)) (forB (sIn 28 1))) (fun _=>True) (cs.map fun c=>V.str ⟨#[c]⟩) (("tables",.ref st.length) :: List.zip ["text"] [.str x]) (st++[intsO l]) none (("tables",.ref st.length) :: List.zip ["text"] [.str x]) (st++[intsO (l++forbF cs)]):=by
   intro cs
   induction cs with
   | nil=>intro l _;rw [show l++forbF []=l from by exact List.append_nil _];exact .nil trivial
   | cons c cs ih =>
    intro l hl
    have hz:=forbC_len c
    have e:l++forbF (c :: cs)=(l++forbC c)++forbF cs:=by simp [forbF]
    rw [e]
    simp only [List.length_cons] at hl
    refine .cons trivial ⟨_,TT.name (.inl rfl) (nc rfl),TS.sub (loc₁:=[(("sign":Str),V.str ⟨#[c]⟩)]++(("tables":Str),V.ref st.length) :: List.zip [("text":Str)] [V.str x]) ?_ (sub_cons (by rfl))⟩ (ih (l++forbC c) (by simp only [List.length_append];omega))
    have big:∀ l':List Int,l'.length≤6000→l'.length < 2 ^ 24:=fun _ h=>Nat.lt_of_le_of_lt h (by decide)
    have e2:l++forbC c=((((l++if inC4 c then [4] else [])++if inL c6L c then [6] else [])++if inL c7L c then [7] else [])++if inL c8L c then [8] else [])++if inL c9L c then [9] else []:=by simp [forbC]
    have z:∀ (b:Bool) (k:Int),(if b=true then [k] else []).length≤1:=by intro b k;cases b <;> simp
    have z1:=z (inC4 c) 4
    have z2:=z (inL c6L c) 6
    have z3:=z (inL c7L c) 7
    have z4:=z (inL c8L c) 8
    rw [e2]
    refine TS1.cons (TS1.forbIf h4 (fun _=>TC.c4 G h4) (big _ (by omega)) rfl rfl rfl rfl rfl) ?_
    refine TS1.cons (TS1.forbIf h6 (fun _=>TC.c6 G h6) (big _ (by simp only [List.length_append];omega)) rfl rfl rfl rfl rfl) ?_
    refine TS1.cons (TS1.forbIf h7 (fun _=>TC.c7 G h7) (big _ (by simp only [List.length_append];omega)) rfl rfl rfl rfl rfl) ?_
    refine TS1.cons (TS1.forbIf h8 (fun _=>TC.c8 G h8) (big _ (by simp only [List.length_append];omega)) rfl rfl rfl rfl rfl) ?_
    exact TS1.cons (TS1.forbIf h9 (fun _=>TC.c9 G h9) (big _ (by simp only [List.length_append];omega)) rfl rfl rfl rfl rfl) TS.nil
  have q:=key x.cps.toList [] (by have:x.cps.toList.length=x.length:=(by simp [Str.length]);simp only [List.length_nil,this];omega)
  exact q
theorem THS.sub {ss:List Stmt} {fl:Option V} (T:THS w ad r env loc st ss fl loc₁ st₁) (hs:∀ x v,loc₂.lookup x=some v→loc₁.lookup x=some v):THS w ad r env loc st ss fl loc₂ st₁:=by
 intro A E s μ Q hA HI S F h
 exact T A E s μ Q hA HI S F fun f h' tk μ' t S' F' fr=>h f h' tk μ' t S' (F'.sub hs) fr
theorem THS.pre {ss:List Stmt} {fl:Option V} (T:THS w ad r env loc₂ st ss fl loc₁ st₁) (hs:∀ x v,loc₂.lookup x=some v→loc.lookup x=some v):THS w ad r env loc st ss fl loc₁ st₁:=by
 intro A E s μ Q hA HI S F h
 exact T A E s μ Q hA HI S (F.sub hs) h
theorem THR.pre {ss:List Stmt} {v:V} (T:THR w ad r env loc₂ st ss v st₁) (hs:∀ x v,loc₂.lookup x=some v→loc.lookup x=some v):THR w ad r env loc st ss v st₁:=let ⟨l,T⟩:=T;⟨l,T.pre hs⟩
theorem THS.nil:THS w ad r env loc st [] none loc st:=TS.h TS.nil
theorem sub_mono {l m:Loc} {y:Str} {u:V} (h:∀ x v,l.lookup x=some v→m.lookup x=some v):∀ x v,List.lookup x ((y,u) :: l)=some v→List.lookup x ((y,u) :: m)=some v:=fun x v e=>by
 rw [List.lookup_cons] at e ⊢
 by_cases hx:x=y
 ·subst hx;rw [beq_self_eq_true] at e ⊢;exact e
 ·rw [beq_eq_false_iff_ne.mpr hx] at e ⊢;exact h x v e
theorem sub_skip {l m:Loc} {y:Str} {u:V} (h:∀ x v,l.lookup x=some v→m.lookup x=some v) (hn:l.lookup y=none):∀ x v,l.lookup x=some v→List.lookup x ((y,u) :: m)=some v:=fun x v e=>by
 rw [List.lookup_cons]
 by_cases hx:x=y
 ·subst hx;rw [hn] at e;exact nsome e
 ·rw [beq_eq_false_iff_ne.mpr hx];exact h x v e
theorem sub_swap {l:Loc} {a b:Str} {u v:V} (h:(a == b)=false):∀ x y,List.lookup x ((a,u) :: (b,v) :: l)=some y→List.lookup x ((b,v) :: (a,u) :: l)=some y:=fun x y e=>by
 simp only [List.lookup_cons] at e ⊢
 by_cases h1:x=a
 ·subst h1
  rw [h]
  rw [beq_self_eq_true] at e ⊢;exact e
 ·rw [beq_eq_false_iff_ne.mpr h1] at e ⊢;exact e
theorem sub_nil {m:Loc}:∀ x v,List.lookup x ([]:Loc)=some v→m.lookup x=some v:=fun _ _ e=>nomatch e
structure PrepOk (x:Str):Prop where
 ok:∀ c∈x.cps.toList,okB3 c=true
 sz:x.length≤sizeLine
 tl:tooLong ((prepL x.cps.toList).toArray.foldl (· + ·.length + (Str.length "")) 0)=false
 out:(prepF x).length≤sizeLine
inductive Peels:Str→List Str→Str→Prop
 | stop {x:Str}:x.length + 2≤sizeLine→Cut x none→Peels x [] x
 | next {x a b:Str} {ns:List Str} {v:Str}:x.length + 2≤sizeLine→Cut x (some (a,b))→PrepOk (Txt.strip a)→Peels (Txt.strip b) ns v→Peels x (prepF (Txt.strip a) :: ns) v
theorem Peels.size {x:Str} {ns:List Str} {v:Str} (P:Peels x ns v):x.length + 2≤sizeLine:=by cases P <;> assumption
noncomputable def whT:Stmt→Expr
 | .While t _ _ _=>t
 | _=>default
noncomputable abbrev peLoc (pv:V) (x:Str) (n:Nat):Loc:=[(("pair":Str),pv),(("row":Str),.str x),(("names":Str),.ref n)]
theorem peel_turn {a pa:Addr} {pm cd:Value} {L p:Nat} {x a' b':Str} {acc:List V} {g:St} {y:Option (Str × Str)} (G:Globs w ad) (hp:FnAt ad "_law_parsed" 26 pa)
  (hs:(st++MObj.list acc :: g)[p]?=some (.pair (.str a') (.str b'))) (ha:PrepOk a') (hb:b'.length + 2≤sizeLine) (hy:Cut b' y) (hacc:acc.length < 2 ^ 24) :
  THS w ad (r + 10) (frameEnv 27 "_law_peeled" pm cd L a) (peLoc (.ref p) x st.length) (st++MObj.list acc :: g) (forB (sIn 27 2)) none
   (peLoc (cutV (st++MObj.list (acc++[V.str (prepF a')]) :: (g++[MObj.list ((prepL a'.cps.toList).map V.str)])).length y) b' st.length)
   ((st++MObj.list (acc++[V.str (prepF a')]) :: (g++[MObj.list ((prepL a'.cps.toList).map V.str)]))++cutSt b' y):=by
 refine xE G.prepared fun pr hpr=>?_
 have hs2:(st++MObj.list (acc++[V.str (prepF a')]) :: (g++[MObj.list ((prepL a'.cps.toList).map V.str)]))[p]?=some (.pair (.str a') (.str b')):=by
  by_cases h1:p < st.length
  ·rw [List.getElem?_append_left h1] at hs ⊢;exact hs
  ·rw [List.getElem?_append_right (Nat.le_of_not_lt h1)] at hs ⊢
   cases hq:p - st.length with
   | zero=>rw [hq] at hs;simp at hs
   | succ q =>
    rw [hq] at hs
    simp only [List.getElem?_cons_succ] at hs ⊢
    rw [List.getElem?_append_left (List.getElem?_eq_some_iff.mp hs).1];exact hs
 refine THS1.cons (TS1.h (TS1.append (l:=acc) (g:=g++[.list ((prepL a'.cps.toList).map V.str)]) (TE.name rfl (.inl rfl)) (TE.end (TE.callG hpr rfl (TL.cons (ns rfl) (TE.part (r:=r + 8) (a:=.str a') (b:=.str b') false G.plain (TE.name rfl (.inl rfl)) hs rfl (nl rfl)) TL.nil) (TC.prepared (r:=r + 4) G hpr ha.ok ha.sz ha.tl ha.out)) (by exact List.append_assoc ..)) (by exact at0) hacc (ns rfl))) ?_
 refine THS1.cons (TS1.h (TS1.assign (TE.part (r:=r + 8) (a:=.str a') (b:=.str b') true G.plain (TE.name rfl (.inl rfl)) hs2 rfl (nl rfl)) (.inl rfl) (nc rfl))) ?_
 refine THS.sub (THS1.cons (THS1.assign (THE.callG hp rfl (TL.cons (ns rfl) (TE.name rfl (.inl rfl)) TL.nil) (TCH.parsed (r:=r) G.toNames hp hb hy)) (.inl rfl) (nc rfl)) THS.nil) ?_
 exact sub_mono (sub_mono (sub_skip (sub_skip (sub_mono sub_nil) rfl) rfl))
noncomputable def HeadOk (x:Str) (pv:V) (S:St):Prop:=∃ y,Cut x y∧match y with
 | none=>pv=.none
 | some (a,b)=>∃ p,pv=.ref p∧S[p]?=some (.pair (.str (Txt.strip a)) (.str (Txt.strip b)))
theorem cut_fun {x:Str} {y z:Option (Str × Str)} (h:Cut x y) (k:Cut x z):y=z:=by
 rcases y with _ | ⟨a,b⟩ <;> rcases z with _ | ⟨c,d⟩
 ·rfl
 ·refine xE h fun e h=>?_
  have:[e]=[c,d]:=h.symm.trans k
  simp at this
 ·refine xE k fun e k=>?_
  have:[e]=[a,b]:=k.symm.trans h
  simp at this
 ·have:[a,b]=[c,d]:=Eq.trans (Eq.symm h) k
  simp at this
  rw [this.1,this.2]
theorem headOk_of {x:Str} {S:St} {y:Option (Str × Str)} (h:Cut x y):HeadOk x (cutV S.length y) (S++cutSt x y):=by
 refine ⟨y,h,?_⟩
 rcases y with _ | ⟨a,b⟩
 ·rfl
 ·refine ⟨_,rfl,?_⟩
  exact at1
theorem Peels.cut {x:Str} {ns:List Str} {v:Str} (P:Peels x ns v):∃ y,Cut x y:=by
 cases P with
 | stop _ h=>exact ⟨_,h⟩
 | next _ h _ _=>exact ⟨_,h⟩
theorem peel_loop {a pa:Addr} (G:Globs w ad) (hp:FnAt ad "_law_parsed" 26 pa):∀ {x:Str} {ns:List Str} {v:Str},Peels x ns v→∀ (acc:List V) (g:St) (pv:V),acc.length + ns.length < 2 ^ 20→HeadOk x pv (st++MObj.list acc :: g) →
  ∃ n g',∀ pm cd L,WhileR (fun loc st b st'=>TB w ad (r + 10) (frameEnv 27 "_law_peeled" pm cd L a) loc st (isTrue (whT (sIn 27 2)) (frameEnv 27 "_law_peeled" pm cd L a) (eval (whT (sIn 27 2)) (frameEnv 27 "_law_peeled" pm cd L a))) b st')
   (fun loc st loc' st'=>THS w ad (r + 10) (frameEnv 27 "_law_peeled" pm cd L a) loc st (forB (sIn 27 2)) none loc' st') n (peLoc pv x st.length) (st++MObj.list acc :: g) (peLoc .none v st.length) (st++MObj.list (acc++ns.map V.str) :: g'):=by
 intro x ns v P
 induction P with
 | @stop x hx hc =>
  intro acc g pv _ ⟨y,hy,h⟩
  cases cut_fun hc hy
  have h:pv=.none:=h
  subst h
  refine ⟨0,g,fun pm cd L=>?_⟩
  have e:st++MObj.list (acc++List.map V.str []) :: g=st++MObj.list acc :: g:=by simp
  rw [e]
  exact .stop (TB.cmp (TE.name rfl (.inl rfl)) TE.cnone TO2.noneIsNot)
 | @next x a1 b1 ns v hx hc hok P ih =>
  intro acc g pv hl ⟨y,hy,h⟩
  cases cut_fun hc hy
  refine xEA h fun p q'1 hs=>?_;try clear h;subst q'1
  refine xE P.cut fun y' hy'=>?_
  have hacc:acc.length < 2 ^ 24:=by simp only [List.length_cons] at hl;omega
  have T:=fun pm cd L=>peel_turn (r:=r) (w:=w) (ad:=ad) (a:=a) (pm:=pm) (cd:=cd) (L:=L) (x:=x) G hp hs hok P.size hy' hacc
  have e:(st++MObj.list (acc++[V.str (prepF (Txt.strip a1))]) :: (g++[MObj.list ((prepL (Txt.strip a1).cps.toList).map V.str)]))++cutSt (Txt.strip b1) y'=st++MObj.list (acc++[V.str (prepF (Txt.strip a1))]) :: ((g++[MObj.list ((prepL (Txt.strip a1).cps.toList).map V.str)])++cutSt (Txt.strip b1) y'):=by exact List.append_assoc ..
  have hh:=headOk_of (S:=st++MObj.list (acc++[V.str (prepF (Txt.strip a1))]) :: (g++[MObj.list ((prepL (Txt.strip a1).cps.toList).map V.str)])) hy'
  rw [e] at hh
  refine xEE (ih _ _ _ (by simp only [List.length_append,List.length_cons,List.length_nil] at hl ⊢;omega) hh) fun n g' K=>?_
  refine ⟨n + 1,g',fun pm cd L=>?_⟩
  have T':=T pm cd L
  rw [e] at T'
  have e2:acc++List.map V.str (prepF (Txt.strip a1) :: ns)=(acc++[V.str (prepF (Txt.strip a1))])++ns.map V.str:=by simp
  rw [e2]
  exact .cons (TB.cmp (TE.name rfl (.inl rfl)) TE.cnone TO2.refIsNot) T' (K pm cd L)
theorem TCH.peeled {a:Addr} {x:Str} {ns:List Str} {v:Str} (G:Globs w ad) (hf:FnAt ad "_law_peeled" 27 a) (P:Peels x ns v) (hl:ns.length < 2 ^ 20) :
  ∃ g,TCH w ad (r + 11) a st [.str x] (.tup2 (.ref st.length) (.str v)) (st++strsO ns :: g):=by
 refine xE G.parsed fun pa hp=>?_
 refine xE P.cut fun y hy=>?_
 have hh:=headOk_of (S:=st++[MObj.list []]) hy
 rw [List.append_assoc,List.singleton_append] at hh
 refine xEE (peel_loop (r:=r) (a:=a) (w:=w) (ad:=ad) (st:=st) G hp P [] _ _ (by simpa using hl) hh) fun n g' K=>?_
 refine ⟨g',?_⟩
 refine TCH.def (ps:=["row"]) hf (fun pm cd=>len1 fun _=>rfl) (by decide) rfl (by decide) (by decide) ?m
 intro pm cd L
 refine THR.cons (TS1.h (TS1.assign (TE.list TL.nil (Nat.zero_le _)) (.inl rfl) (nc rfl))) ?_
 refine THR.cons (THS1.assign (THE.callG hp rfl (TL.cons nofun (TE.name rfl (.inl rfl)) TL.nil) (TCH.parsed (r:=r) G.toNames hp P.size hy)) (.inl rfl) nofun) ?_
 refine THR.pre (loc₂:=peLoc (cutV (st++[MObj.list []]).length y) x st.length) ?_ (sub_mono (fun y v e=>?_))
 ·have e1:st++[MObj.list []]++cutSt x y=st++MObj.list [] :: cutSt x y:=by exact List.append_assoc ..
  show THR w ad (r + 10) _ _ ((st++[MObj.list []])++cutSt x y) _ _ _
  rw [e1]
  have KK:=K pm cd L
  rw [List.nil_append] at KK
  exact THR.cons (THS1.while KK) (TR.h (TR.ret (TE.tup2 (TL.cons nofun (TE.name rfl (.inl rfl)) (TL.cons nofun (TE.name rfl (.inl rfl)) TL.nil)))))
 ·exact sub_swap (by decide) y v e
noncomputable def signs6:List Int:=[64976,131071,65533,12272,8206,917505]
noncomputable def tables6:List Int:=[4,4,6,7,8,9]
noncomputable def values4:List Str:=["","A","x  y","\ufeff"]
noncomputable def rowD (x:Nat):Nat:=x / 768 % 16
noncomputable def rowSign (x:Nat):Str:=if 10≤rowD x then ⟨#[(signs6.getD (rowD x - 10) 0).toNat]⟩ else ""
noncomputable def rowTable (x:Nat):Int:=if 10≤rowD x then tables6.getD (rowD x - 10) 0 else 0
noncomputable def rowN (x:Nat):Nat:=1 + x % 3
noncomputable def rowW (x k:Nat):Nat:=x / 3 / 4 ^ k % 4
noncomputable def rowForms (x k:Nat):List Str:=spell.getD (rowW x k) []
noncomputable def rowField (x place k:Nat):Str:=fieldF (rowForms x k) (x / 12288 + 85 * k + 7 * place) (if k + 1=rowN x then rowSign x else "")
noncomputable def rowVal (x:Nat):Str:=values4.getD (x / 192 % 4) ""
noncomputable def rowText (x place:Nat):Str:=glued "=" ((List.range (rowN x)).map (rowField x place)++[(" "++rowVal x)++"\t"])
noncomputable def rowPath (x:Nat):List Str:=(List.range (rowN x)).map fun k=>(rowForms x k).getD 0 ""
theorem CompR.const {turn:V→St→Option V→St→Prop} {f u:Nat→V}:∀ {l:List Nat},(∀ i∈l,turn (f i) st (some (u i)) st)→CompR turn (fun _=>True) (l.map f) st (l.map u) st
 | [],_=>.nil trivial
 | i :: _,h=>.take trivial (h i (.head _)) (CompR.const fun j hj=>h j (.tail _ hj))
theorem fromLo0 (n:Nat):fromLo 0 n=(List.range n).map fun (i:Nat)=>V.int (i:Int):=by simp [fromLo]
noncomputable def SpellAt (st:St) (sp:Nat):Prop:=∃ b,st[sp]?=some (.list [.ref b,.ref (b + 1),.ref (b + 2),.ref (b + 3)])∧∀ i,i < 4→st[b + i]?=some (strsO (spell.getD i []))
theorem SpellAt.grow {sp:Nat} (h:SpellAt st sp) (g:St):SpellAt (st++g) sp:=by
 refine xEA h fun b h1 h2=>?_
 refine ⟨b,?_,fun i hi=>?_⟩
 ·rw [List.getElem?_append_left (List.getElem?_eq_some_iff.mp h1).1];exact h1
 ·rw [List.getElem?_append_left (List.getElem?_eq_some_iff.mp (h2 i hi)).1];exact h2 i hi
noncomputable abbrev rowEnv (pm cd:Value) (L a:Addr):Env:=frameEnv 24 "_law_row" pm cd L a
noncomputable abbrev rowLoc0 (x place sp:Nat):Loc:=[(("x":Str),.int (x:Nat)),(("place":Str),.int (place:Nat)),(("spellings":Str),.ref sp)]
noncomputable def row1 (x b:Nat):MObj:=.list ((List.range (rowN x)).map fun k=>.ref (b + rowW x k))
theorem rowN_le (x:Nat):rowN x≤3:=by unfold rowN;omega
theorem row_words {pm cd:Value} {L a:Addr} {x place sp b:Nat} (G:Globs w ad) (hs:st[sp]?=some (.list [.ref b,.ref (b + 1),.ref (b + 2),.ref (b + 3)])) :
  TS1 w ad (r + 1) (rowEnv pm cd L a) (rowLoc0 x place sp) st (sIn 24 0) none ((("words":Str),.ref st.length) :: rowLoc0 x place sp) (st++[row1 x b]):=by
 refine TS1.assignComp (vals:=fromLo 0 (rowN x)) (capt:=[(("spellings":Str),.ref sp),(("x":Str),.int (x:Nat))]) [(("x":Str),L + 1),(("spellings":Str),L + 2)]
  (TX.range1 G.range rfl (ns rfl) (TE.val (TE.bin TE.int (TE.bin (TE.name rfl (.inr (.inl rfl))) TE.int (TO2.modN rfl (by decide))) TO2.add) ?n) ?nn) ?loop (.inl ⟨rfl,_,_,rfl⟩) rfl (by decide) rfl (by decide) ?cl ?clp ?capt ?sz (by intro _;rfl) rfl (.inl rfl) (nc rfl)
 case n=>unfold rowN;rw [Int.natCast_add];rfl
 case nn =>
  have:=rowN_le x
  exact Int.lt_of_le_of_lt (Int.ofNat_le.mpr this) (by decide)
 case sz =>
  rw [fromLo0]
  have:=rowN_le x
  simp only [List.length_map,List.length_range]
  exact Nat.le_trans this (by decide)
 case clp =>
  refine .cons (fun p hp=>?_) (.cons nofun .nil)
  rw [List.mem_singleton.mp hp]
  exact Nat.ne_of_lt (Nat.lt_succ_self _)
 case cl =>
  intro p hp
  show p∈[(("spellings":Str),L + 1 + 1),(("x":Str),L + 1)]
  rcases List.mem_cons.mp hp with rfl | hp
  ·exact .tail _ (.head _)
  ·rw [List.mem_singleton.mp hp]
   exact .head _
 case capt =>
  intro y v e
  have hm:=mem_lookup e
  rcases List.mem_cons.mp hm with h | hm
  ·cases h
   exact ⟨rfl,.inl rfl,rfl,fun q=>nomatch (show some NameKind.cell=some NameKind.local from q)⟩
  ·cases List.mem_singleton.mp hm
   exact ⟨rfl,.inl rfl,rfl,fun q=>nomatch (show some NameKind.cell=some NameKind.local from q)⟩
 case loop =>
  intro C
  rw [fromLo0]
  refine CompR.const fun i hi=>⟨_,st,TT.name (.inl rfl) (nc rfl),?_,TF.nil,?_⟩
  ·intro y v e
   have hm:=mem_lookup e
   rcases List.mem_cons.mp hm with h | hm
   ·cases h;rfl
   ·cases List.mem_singleton.mp hm;rfl
  ·have hi3:i≤2:=by
    have:=List.mem_range.mp hi
    have:=rowN_le x
    omega
   have m4:rowW x i < 4:=Nat.mod_lt _ (by decide)
   have hp:(4:Int) ^ ((i:Nat):Int).toNat=((4 ^ i:Nat):Int):=by simp
   have hp0:0 < 4 ^ i:=Nat.pow_pos (by decide)
   have hp1:4 ^ i < 1073741824:=Nat.lt_of_le_of_lt (Nat.pow_le_pow_right (by decide) hi3) (by decide)
   have hpow:((Builtin.Int.intBits 4:Nat):Int) * (i:Int)≤2 ^ 27:=by
    have:(Builtin.Int.intBits 4:Nat)=3:=by decide
    rw [this]
    have:(i:Int)≤2:=Int.ofNat_le.mpr hi3
    have:(2:Int) ^ 27=134217728:=by decide
    omega
   refine TE.sub (TE.name rfl (.inr (.inl rfl))) (TE.bin (TE.bin (TE.bin (TE.name rfl (.inr (.inl rfl))) TE.int (TO2.fdivN rfl (by decide) (by decide))) (TE.bin TE.int (TE.name rfl (.inl rfl)) (TO2.pow (Int.natCast_nonneg _) hpow)) (TO2.fdivN hp hp0 hp1)) TE.int (TO2.modN rfl (by decide))) (SubOk.listN hs (Nat.lt_trans m4 (by decide)) ?_)
   show [V.ref b,.ref (b + 1),.ref (b + 2),.ref (b + 3)][rowW x i]?=_
   generalize rowW x i=j at m4 ⊢
   match j,m4 with
   | 0,_=>rfl
   | 1,_=>rfl
   | 2,_=>rfl
   | 3,_=>rfl
theorem getD_mapI {l:List Int} {i:Nat} (h:i < l.length):(l.map V.int)[i]?=some (.int (l.getD i 0)):=by exact mapGetD ‹_›
noncomputable def sgSt (x:Nat):St:=if 10≤rowD x then [intsO signs6] else []
noncomputable def tbSt (x:Nat):St:=if 10≤rowD x then [intsO tables6] else []
noncomputable abbrev drawV (x:Nat):V:=.int ((rowD x:Nat) - (10:Int))
theorem rowD_lt (x:Nat):rowD x < 16:=Nat.mod_lt _ (by decide)
theorem row_draw {pm cd:Value} {L a:Addr} {x:Nat} (hx:loc.lookup ("x":Str)=some (.int (x:Nat))) :
  TS1 w ad (r + 1) (rowEnv pm cd L a) loc st (sIn 24 1) none ((("draw":Str),drawV x) :: loc) st :=
 TS1.assign (TE.bin (TE.bin (TE.bin (TE.name hx (.inr (.inl rfl))) TE.int (TO2.fdivN rfl (by decide) (by decide))) TE.int (TO2.modN rfl (by decide))) TE.int TO2.sub) (.inl rfl) (nc rfl)
theorem draw_idx {x:Nat} (h:10≤rowD x):drawV x=.int ((rowD x - 10:Nat):Int):=by
 show V.int _=V.int _
 congr 1
 omega
theorem row_sign {pm cd:Value} {L a:Addr} {x:Nat} (G:Globs w ad) (hd:loc.lookup ("draw":Str)=some (drawV x)) :
  TS1 w ad (r + 1) (rowEnv pm cd L a) loc st (sIn 24 2) none ((("sign":Str),.str (rowSign x)) :: loc) (st++sgSt x):=by
 have lt:=rowD_lt x
 unfold sgSt rowSign
 by_cases h:10≤rowD x
 ·rw [if_pos h,if_pos h]
  have hk:rowD x - 10 < 6:=by omega
  have hb:0≤signs6.getD (rowD x - 10) 0∧signs6.getD (rowD x - 10) 0≤1114111:=by
   generalize rowD x - 10=k at hk ⊢
   match k,hk with
   | 0,_=>decide
   | 1,_=>decide
   | 2,_=>decide
   | 3,_=>decide
   | 4,_=>decide
   | 5,_=>decide
  refine TS1.assign (TE.ifT (TB.val (TB.cmp (TE.name hd (.inl rfl)) TE.int TO2.ge) (decide_eq_true (by omega))) (TE.callB (by rfl) G.chr (by decide) rfl (TL.cons (ns rfl) (TE.sub (TE.list (vs:=signs6.map V.int) (TL.cons (ns rfl) TE.int (TL.cons (ns rfl) TE.int (TL.cons (ns rfl) TE.int (TL.cons (ns rfl) TE.int (TL.cons (ns rfl) TE.int (TL.cons (ns rfl) TE.int TL.nil)))))) (by show 6≤sizeLine;decide))
   (TE.val (TE.name hd (.inl rfl)) (draw_idx h)) (SubOk.listN (l:=signs6.map V.int) (by exact at0) (Nat.lt_trans hk (by decide)) (getD_mapI hk))) TL.nil) (TO.chr hb.1 hb.2))) (.inl rfl) (nc rfl)
 ·rw [if_neg h,if_neg h,List.append_nil]
  exact TS1.assign (TE.ifF (TB.val (TB.cmp (TE.name hd (.inl rfl)) TE.int TO2.ge) (decide_eq_false (by omega))) TE.cstr) (.inl rfl) (nc rfl)
theorem row_table {pm cd:Value} {L a:Addr} {x:Nat} (hd:loc.lookup ("draw":Str)=some (drawV x)) :
  TS1 w ad (r + 1) (rowEnv pm cd L a) loc st (sIn 24 6) none ((("table":Str),.int (rowTable x)) :: loc) (st++tbSt x):=by
 have lt:=rowD_lt x
 unfold tbSt rowTable
 by_cases h:10≤rowD x
 ·rw [if_pos h,if_pos h]
  have hk:rowD x - 10 < 6:=by omega
  refine TS1.assign (TE.ifT (TB.val (TB.cmp (TE.name hd (.inl rfl)) TE.int TO2.ge) (decide_eq_true (by omega))) (TE.sub (TE.list (vs:=tables6.map V.int) (TL.cons (ns rfl) TE.int (TL.cons (ns rfl) TE.int (TL.cons (ns rfl) TE.int (TL.cons (ns rfl) TE.int (TL.cons (ns rfl) TE.int (TL.cons (ns rfl) TE.int TL.nil)))))) (by show 6≤sizeLine;decide))
   (TE.val (TE.name hd (.inl rfl)) (draw_idx h)) (SubOk.listN (l:=tables6.map V.int) (by exact at0) (Nat.lt_trans hk (by decide)) (getD_mapI hk)))) (.inl rfl) (nc rfl)
 ·rw [if_neg h,if_neg h,List.append_nil]
  exact TS1.assign (TE.ifF (TB.val (TB.cmp (TE.name hd (.inl rfl)) TE.int TO2.ge) (decide_eq_false (by omega))) TE.int) (.inl rfl) (nc rfl)
theorem row_value {pm cd:Value} {L a:Addr} {x:Nat} (hx:loc.lookup ("x":Str)=some (.int (x:Nat))) :
  TS1 w ad (r + 1) (rowEnv pm cd L a) loc st (sIn 24 5) none ((("value":Str),.str (rowVal x)) :: loc) (st++[strsO values4]):=by
 have m4:x / 192 % 4 < 4:=Nat.mod_lt _ (by decide)
 exact TS1.assign (TE.sub (TE.list (vs:=values4.map V.str) (TL.cons (ns rfl) TE.cstr (TL.cons (ns rfl) TE.cstr (TL.cons (ns rfl) TE.cstr (TL.cons (ns rfl) TE.cstr TL.nil)))) (by show 4≤sizeLine;decide)) (TE.bin (TE.bin (TE.name hx (.inr (.inl rfl))) TE.int (TO2.fdivN rfl (by decide) (by decide))) TE.int (TO2.modN rfl (by decide)))
  (SubOk.listN (l:=values4.map V.str) (by exact at0) (Nat.lt_trans m4 (by decide)) (getD_map m4))) (.inl rfl) (nc rfl)
noncomputable def fieldsG (i:Nat):St:=(List.replicate i [strsO blanks,strsO hiddens]).flatten
theorem fieldsG_succ (i:Nat):fieldsG (i + 1)=fieldsG i++[strsO blanks,strsO hiddens]:=by
 unfold fieldsG
 rw [List.replicate_succ',List.flatten_append]
 rfl
noncomputable def fieldsSt (st:St) (x place i:Nat):St:=st++MObj.list (((List.range i).map (rowField x place)).map V.str) :: fieldsG i
noncomputable abbrev rowLoc2 (x place sp wi fi:Nat):Loc:=(("fields":Str),V.ref fi) :: (("sign":Str),.str (rowSign x)) :: (("draw":Str),drawV x) :: (("words":Str),.ref wi) :: rowLoc0 x place sp
theorem TS.end {ss:List Stmt} {fl:Option V} {st':St} (T:TS w ad r env loc st ss fl loc₁ st') (h:st'=st₁):TS w ad r env loc st ss fl loc₁ st₁:=h ▸ T
theorem rowSign_len (x:Nat):(rowSign x).length≤1:=by
 unfold rowSign
 split
 ·exact Nat.le_refl _
 ·exact Nat.zero_le _
theorem spell_len:∀ i,∀ y∈spell.getD i [],y.length≤10:=by
 intro i
 match i with
 | 0=>decide
 | 1=>decide
 | 2=>decide
 | 3=>decide
 | n + 4=>intro y hy;trivial
theorem rowForms_len (x k:Nat):(rowForms x k).length=4:=by
 have m4:rowW x k < 4:=Nat.mod_lt _ (by decide)
 unfold rowForms
 generalize rowW x k=j at m4 ⊢
 match j,m4 with
 | 0,_=>rfl
 | 1,_=>rfl
 | 2,_=>rfl
 | 3,_=>rfl
theorem row_turn {pm cd:Value} {L a fa:Addr} {x place sp wi b i:Nat} (G:Globs w ad) (hf:FnAt ad "_law_field" 23 fa) (hw:st[wi]?=some (row1 x b)) (hb:∀ i,i < 4→st[b + i]?=some (strsO (spell.getD i []))) (hi:i < rowN x) (hpl:place < 2 ^ 20) (hxx:x < 2 ^ 40) :
  TS w ad (r + 3) (rowEnv pm cd L a) ([(("k":Str),V.int (i:Nat))]++rowLoc2 x place sp wi st.length) (fieldsSt st x place i) (forB (sIn 24 4)) none (rowLoc2 x place sp wi st.length) (fieldsSt st x place (i + 1)):=by
 have n3:=rowN_le x
 have m4:rowW x i < 4:=Nat.mod_lt _ (by decide)
 have hw':(fieldsSt st x place i)[wi]?=some (row1 x b):=by
  unfold fieldsSt
  rw [List.getElem?_append_left (List.getElem?_eq_some_iff.mp hw).1];exact hw
 have hfm:(fieldsSt st x place i)[b + rowW x i]?=some (strsO (rowForms x i)):=by
  unfold fieldsSt
  rw [List.getElem?_append_left (List.getElem?_eq_some_iff.mp (hb _ m4)).1];exact hb _ m4
 have lenW:TE w ad (r + 3) (rowEnv pm cd L a) ([(("k":Str),V.int (i:Nat))]++rowLoc2 x place sp wi st.length) (fieldsSt st x place i) (.Call (.Name "len" ⟨133,28,133,31⟩) [.Name "words" ⟨133,32,133,37⟩] [] ⟨133,28,133,38⟩) (.int (rowN x:Nat)) (fieldsSt st x place i) :=
  TE.val (TE.callB (by rfl) G.len (by decide) rfl (TL.cons (ns rfl) (TE.name rfl (.inl rfl)) TL.nil) (TO.len hw' (by simp;exact Nat.lt_of_le_of_lt ‹_› (by decide)))) (by simp)
 have hlast:∃ lt:Str,lt=(if i + 1=rowN x then rowSign x else "")∧lt.length≤10∧TS1 w ad (r + 3) (rowEnv pm cd L a) ([(("k":Str),V.int (i:Nat))]++rowLoc2 x place sp wi st.length) (fieldsSt st x place i) ((forB (sIn 24 4)).getD 0 (.Pass default)) none
   ((("last":Str),.str lt) :: ([(("k":Str),V.int (i:Nat))]++rowLoc2 x place sp wi st.length)) (fieldsSt st x place i):=by
  refine ⟨_,rfl,?_,?_⟩
  ·split
   ·exact Nat.le_trans (rowSign_len x) (by decide)
   ·exact Nat.zero_le _
  ·by_cases hc:i + 1=rowN x
   ·rw [if_pos hc]
    refine TS1.assign (TE.ifT (TB.val (TB.cmp (TE.name rfl (.inl rfl)) (TE.bin lenW TE.int TO2.sub) TO2.eq) ?_) (TE.name rfl (.inl rfl))) (.inl rfl) (nc rfl)
    rw [beq_iff_eq];omega
   ·rw [if_neg hc]
    refine TS1.assign (TE.ifF (TB.val (TB.cmp (TE.name rfl (.inl rfl)) (TE.bin lenW TE.int TO2.sub) TO2.eq) ?_) TE.cstr) (.inl rfl) (nc rfl)
    rw [beq_eq_false_iff_ne];omega
 refine xEAA hlast fun lt hlt hltl T1=>?_
 refine TS1.cons T1 ?_
 have hl24:(((List.range i).map (rowField x place)).map V.str).length < 2 ^ 24:=by simp;omega
 have hst:(fieldsSt st x place i)[st.length]?=some (.list (((List.range i).map (rowField x place)).map V.str)):=by exact at0
 have hfl:∀ y∈rowForms x i,y.length≤10:=spell_len _
 have hn62:x / 12288 + 85 * i + 7 * place < 2 ^ 62:=by
  have:x / 12288≤x:=Nat.div_le_self _ _
  have:(2:Nat) ^ 62=4611686018427387904:=by decide
  have:(2:Nat) ^ 40=1099511627776:=by decide
  have:(2:Nat) ^ 20=1048576:=by decide
  omega
 have e1:fieldsSt st x place i++[strsO blanks,strsO hiddens]=st++MObj.list (((List.range i).map (rowField x place)).map V.str) :: fieldsG (i + 1):=by
  rw [fieldsG_succ];exact List.append_assoc ..
 have e2:st++MObj.list (((List.range i).map (rowField x place)).map V.str++[V.str (rowField x place i)]) :: fieldsG (i + 1)=fieldsSt st x place (i + 1):=by
  unfold fieldsSt;rw [List.range_succ];simp
 refine TS.sub (TS.end (TS1.cons (TS1.append (l:=((List.range i).map (rowField x place)).map V.str) (v:=V.str (rowField x place i)) (g:=fieldsG (i + 1)) (TE.name rfl (.inl rfl))
  (TE.end (TE.val (TE.callG hf rfl (TL.cons (ns rfl) (TE.sub (TE.name rfl (.inl rfl)) (TE.name rfl (.inl rfl)) (SubOk.listN (v:=.ref (b + rowW x i)) hw' (by omega) ?g1)) (TL.cons (ns rfl)
   (TE.val (TE.bin (TE.bin (TE.bin (TE.name rfl (.inr (.inl rfl))) TE.int (TO2.fdivN rfl (by decide) (by decide))) (TE.bin TE.int (TE.name rfl (.inl rfl)) (TO2.mul (by decide) (by decide))) TO2.add) (TE.bin TE.int (TE.name rfl (.inl rfl)) (TO2.mul (by decide) (by decide))) TO2.add) (v:=.int ((x / 12288 + 85 * i + 7 * place:Nat):Int)) ?g2)
   (TL.cons (ns rfl) (TE.name rfl (.inl rfl)) TL.nil))) (TC.field (r:=r + 2) G hf hfm (rowForms_len x i) hfl hltl hn62)) ?g3) e1) hst hl24 (ns rfl)) TS.nil) e2) ?g4
 case g1=>simp [hi]
 case g2=>congr 1
 case g3=>rw [hlt];rfl
 case g4=>exact sub_skip (sub_skip (fun _ _ h=>h) rfl) rfl
theorem sum_le {m:Nat}:∀ {ts:List Str},(∀ t∈ts,t.length≤m)→(ts.map (·.length)).sum≤ts.length * m
 | [],_=>Nat.zero_le _
 | t :: ts,h=>by
  have:=sum_le fun x hx=>h x (.tail _ hx)
  have:=h t (.head _)
  simp only [List.map_cons,List.sum_cons,List.length_cons,Nat.succ_mul]
  omega
theorem foldl_len {k:Nat}:∀ (ts:List Str) (n:Nat),ts.foldl (fun a t=>a + t.length + k) n=n + (ts.map (·.length)).sum + ts.length * k
 | [],n=>by simp
 | t :: ts,n=>by
  rw [List.foldl_cons,foldl_len ts]
  simp only [List.map_cons,List.sum_cons,List.length_cons,Nat.succ_mul]
  omega
theorem join_ok {sep:Str} {ts:List Str} {m:Nat} (h:∀ t∈ts,t.length≤m) (hz:ts.length * (m + sep.length)≤sizeLine) :
  tooLong (ts.toArray.foldl (· + ·.length + sep.length) 0)=false∧(glued sep ts).length≤sizeLine:=by
 have h1:=sum_le h
 rw [Nat.mul_add] at hz
 constructor
 ·unfold tooLong
  rw [List.foldl_toArray',foldl_len] <;> first | rfl | skip
  exact decide_eq_false (by omega)
 ·rw [size_glued]
  have:(ts.length - 1) * sep.length≤ts.length * sep.length:=Nat.mul_le_mul_right _ (Nat.sub_le _ _)
  omega
theorem CompR.constOk {turn:V→St→Option V→St→Prop} {Ok:St→Prop} (ho:Ok st) {f u:Nat→V}:∀ {l:List Nat},(∀ i∈l,turn (f i) st (some (u i)) st)→CompR turn Ok (l.map f) st (l.map u) st
 | [],_=>.nil ho
 | i :: _,h=>.take ho (h i (.head _)) (CompR.constOk ho fun j hj=>h j (.tail _ hj))
theorem fieldF_len {forms:List Str} {n:Nat} {sign:Str} (hf:∀ x∈forms,x.length≤10) (hs:sign.length≤10):(fieldF forms n sign).length≤30:=by
 have l1:(blanks.getD (n / 64 % 4) "").length≤2:=len_getD (by decide)
 have l2:(hiddens.getD (n / 4 % 4) "").length≤2:=len_getD (by decide)
 have l3:(forms.getD (n % 4) "").length≤10:=len_getD hf
 have l4:(hiddens.getD (n / 16 % 4) "").length≤2:=len_getD (by decide)
 unfold fieldF
 simp only [Str.length_append]
 omega
theorem rowField_len (x place k:Nat):(rowField x place k).length≤30:=by
 refine fieldF_len (spell_len _) ?_
 split
 ·exact Nat.le_trans (rowSign_len x) (by decide)
 ·exact Nat.zero_le _
theorem rowVal_len (x:Nat):(rowVal x).length≤4:=len_getD (by decide)
theorem row_loop {pm cd:Value} {L a fa:Addr} {x place sp wi b:Nat} (G:Globs w ad) (hf:FnAt ad "_law_field" 23 fa) (hw:st[wi]?=some (row1 x b)) (hb:∀ i,i < 4→st[b + i]?=some (strsO (spell.getD i []))) (hpl:place < 2 ^ 20) (hxx:x < 2 ^ 40) :
  TS1 w ad (r + 3) (rowEnv pm cd L a) (rowLoc2 x place sp wi st.length) (fieldsSt st x place 0) (sIn 24 4) none (rowLoc2 x place sp wi st.length) (fieldsSt st x place (rowN x)):=by
 have hw':(fieldsSt st x place 0)[wi]?=some (row1 x b):=by
  unfold fieldsSt
  rw [List.getElem?_append_left (List.getElem?_eq_some_iff.mp hw).1];exact hw
 have n3:=rowN_le x
 refine TS1.for (vals:=fromLo 0 (rowN x)) (TX.range1 (n:=rowN x) G.range rfl (ns rfl) (TE.val (TE.callB (by rfl) G.len (by decide) rfl (TL.cons (ns rfl) (TE.name rfl (.inl rfl)) TL.nil) (TO.len hw' (by simp;exact Nat.lt_of_le_of_lt ‹_› (by decide)))) (by simp)) (Int.lt_of_le_of_lt (Int.ofNat_le.mpr n3) (by decide))) ?loop (.inl ⟨rfl,_,_,rfl⟩)
 case loop =>
  rw [fromLo0,List.range_eq_range']
  have key:∀ (m i:Nat),i + m=rowN x→LoopR (Turn w ad (r + 3) (rowEnv pm cd L a) (forT (sIn 24 4)) (forB (sIn 24 4))) (fun _=>True) ((List.range' i m).map fun (i:Nat)=>V.int (i:Int)) (rowLoc2 x place sp wi st.length) (fieldsSt st x place i) none (rowLoc2 x place sp wi st.length) (fieldsSt st x place (rowN x)):=by
   intro m
   induction m with
   | zero=>intro i hi;rw [show i=rowN x by omega];exact .nil trivial
   | succ m ih =>
    intro i hi
    rw [List.range'_succ,List.map_cons]
    exact .cons trivial ⟨_,TT.name (.inl rfl) (nc rfl),row_turn G hf hw hb (by omega) hpl hxx⟩ (ih (i + 1) (by omega))
  exact key (rowN x) 0 (by exact Nat.add_comm _ _)
noncomputable def rowG (x place b:Nat):St :=
 row1 x b :: (sgSt x++MObj.list (((List.range (rowN x)).map (rowField x place)).map V.str) :: (fieldsG (rowN x)++strsO values4 :: (tbSt x++[strsO [(" "++rowVal x)++"\t"],strsO ((List.range (rowN x)).map (rowField x place)++[(" "++rowVal x)++"\t"]),strsO (rowPath x)])))
theorem TC.row {a:Addr} {x place sp:Nat} (G:Globs w ad) (hf:FnAt ad "_law_row" 24 a) (hsp:SpellAt st sp) (hpl:place < 2 ^ 20) (hxx:x < 2 ^ 40) :
  ∃ g p,TC w ad (r + 4) a st [.int (x:Nat),.int (place:Nat),.ref sp] (.tup4 (.str (rowText x place)) (.ref p) (.str (rowVal x)) (.int (rowTable x))) (st++g)∧(st++g)[p]?=some (strsO (rowPath x)):=by
 refine xEA hsp fun b hs hb=>?_
 refine xE G.field fun fa hfa=>?_
 let S2:St:=(st++[row1 x b])++sgSt x
 let S5:St:=fieldsSt S2 x place (rowN x)++[strsO values4]
 let S6:St:=S5++tbSt x
 let ts:List Str:=(List.range (rowN x)).map (rowField x place)++[(" "++rowVal x)++"\t"]
 let S7:St:=(S6++[strsO [(" "++rowVal x)++"\t"]])++[strsO ts]
 have e0:S7++[strsO (rowPath x)]=st++rowG x place b:=by
  show (((((fieldsSt ((st++[row1 x b])++sgSt x) x place (rowN x)++[strsO values4])++tbSt x)++[strsO [(" "++rowVal x)++"\t"]])++[strsO ts])++[strsO (rowPath x)])=_
  simp [fieldsSt,rowG,ts]
 refine ⟨rowG x place b,S7.length,?_,by rw [← e0];exact at0⟩
 rw [← e0]
 have n3:=rowN_le x
 have hS2:∀ {i:Nat} {o:MObj},st[i]?=some o→S2[i]?=some o:=fun {i o} h=>by
  show ((st++[row1 x b])++sgSt x)[i]?=_
  have:=(List.getElem?_eq_some_iff.mp h).1
  rw [List.append_assoc,List.getElem?_append_left this];exact h
 have hw2:S2[st.length]?=some (row1 x b):=by
  show ((st++[row1 x b])++sgSt x)[st.length]?=_
  simp
 have hfS:S5[S2.length]?=some (.list (((List.range (rowN x)).map (rowField x place)).map V.str)):=by
  show (fieldsSt S2 x place (rowN x)++[strsO values4])[S2.length]?=_
  simp [fieldsSt]
 refine TC.def (ps:=["x","place","spellings"]) hf (fun pm cd=>len3 fun _ _ _=>rfl) (by decide) rfl (by decide) (by decide) ?m
 intro pm cd L
 refine TR.cons (row_words G hs) ?_
 refine TR.cons (row_draw rfl) ?_
 refine TR.cons (row_sign G rfl) ?_
 refine TR.cons (TS1.assign (TE.list TL.nil (Nat.zero_le _)) (.inl rfl) (nc rfl)) ?_
 refine TR.cons (t:=sIn 24 4) (row_loop (st:=S2) (b:=b) G hfa hw2 (fun i hi=>hS2 (hb i hi)) hpl hxx) ?_
 refine TR.cons (row_value rfl) ?_
 refine TR.cons (row_table rfl) ?_
 have keep5:∀ {i:Nat} {o:MObj} (g:St),S2[i]?=some o→i≠S2.length→(S5++g)[i]?=some o:=fun {i o} g h _=>by
  have:=(List.getElem?_eq_some_iff.mp h).1
  show ((fieldsSt S2 x place (rowN x)++[strsO values4])++g)[i]?=_
  unfold fieldsSt
  rw [List.append_assoc,List.append_assoc,List.getElem?_append_left this];exact h
 have lt5:S2.length < S5.length:=(List.getElem?_eq_some_iff.mp hfS).1
 have up:∀ {i:Nat} {o:MObj} (A g:St),A[i]?=some o→(A++g)[i]?=some o:=fun {i o} A g h=>by
  rw [List.getElem?_append_left (List.getElem?_eq_some_iff.mp h).1];exact h
 have hf6:S6[S2.length]?=some (.list (((List.range (rowN x)).map (rowField x place)).map V.str)):=up S5 _ hfS
 have hw6:S6[st.length]?=some (row1 x b):=keep5 _ hw2 (Nat.ne_of_lt (List.getElem?_eq_some_iff.mp hw2).1)
 have hb6:∀ i,i < 4→S6[b + i]?=some (strsO (spell.getD i [])):=fun i hi=>keep5 _ (hS2 (hb i hi)) (Nat.ne_of_lt (List.getElem?_eq_some_iff.mp (hS2 (hb i hi))).1)
 have hw7:S7[st.length]?=some (.list ((List.range (rowN x)).map fun k=>.ref (b + rowW x k))):=up _ _ (up _ _ hw6)
 have hb7:∀ i,i < 4→S7[b + i]?=some (strsO (spell.getD i [])):=fun i hi=>up _ _ (up _ _ (hb6 i hi))
 have e7:(S6++[MObj.list [V.str ((" "++rowVal x)++"\t")]])++[MObj.list (((List.range (rowN x)).map (rowField x place)).map V.str++[V.str ((" "++rowVal x)++"\t")])]=S7:=by
  show _=(S6++[strsO [(" "++rowVal x)++"\t"]])++[strsO ts]
  simp [strsO,ts]
 have v6:(" "++rowVal x++"\t":Str).length≤30:=by
  simp only [Str.length_append]
  have:=rowVal_len x
  have:(Str.ofString " ").length=1:=rfl
  have:(Str.ofString "\t").length=1:=rfl
  omega
 have tsl:∀ t∈ts,t.length≤30:=fun t ht=>by
  rcases List.mem_append.mp ht with h | h
  ·refine xEA (List.mem_map.mp h) fun k _ q'1=>?_;subst q'1
   exact rowField_len x place k
  ·rw [List.mem_singleton.mp h];exact v6
 have tsn:ts.length≤4:=by simp only [ts,List.length_append,List.length_map,List.length_range,List.length_cons,List.length_nil];exact Nat.succ_le_succ ‹_›
 have jo:=join_ok (sep:="=") (ts:=ts) (m:=30) tsl (Nat.le_trans (Nat.mul_le_mul_right _ tsn) (by decide))
 have sl:100≤sizeLine:=by decide
 refine TR.ret (TE.tup4 (TL.cons (ns rfl) (TE.meth TE.cstr (TM.str F.slot_str_join F.type_str_join) Keeps1.builtin (TL.cons (ns rfl)
   (TE.bin (TE.name rfl (.inl rfl)) (TE.list (vs:=[V.str ((" "++rowVal x)++"\t")]) (TL.cons (ns rfl) (TE.bin (TE.bin TE.cstr (TE.name rfl (.inl rfl)) (TO2.cat ?c1)) TE.cstr (TO2.cat ?c2)) TL.nil) (by show 1≤sizeLine;decide)) (TO2.lcat (l:=((List.range (rowN x)).map (rowField x place)).map V.str) (l':=[V.str ((" "++rowVal x)++"\t")]) (up _ _ hf6) (by exact at0) ?c3)) TL.nil)
   (TO.join (ts:=ts) ?c4 jo.1 jo.2))
  (TL.cons (ns rfl) (TE.comp (vals:=(List.range (rowN x)).map fun k=>V.ref (b + rowW x k)) (us:=(rowPath x).map V.str) (Ok:=fun st'=>st'[st.length]?=some (.list ((List.range (rowN x)).map fun k=>.ref (b + rowW x k)))) (capt:=[]) [] (TX.of (TE.name rfl (.inl rfl)) (TI.list ?c5)) ?loop (.inl ⟨rfl,_,_,rfl⟩) rfl (by decide) rfl (by decide) nm .nil nk ?c6)
  (TL.cons (ns rfl) (TE.name rfl (.inl rfl)) (TL.cons (ns rfl) (TE.name rfl (.inl rfl)) TL.nil)))))
 case c1=>have:=rowVal_len x;exact Nat.le_trans (Nat.add_le_add (Nat.le_refl 1) this) (by decide)
 case c2 =>
  simp only [Str.length_append]
  have:=rowVal_len x
  have:(Str.ofString " ").length=1:=rfl
  have:(Str.ofString "\t").length=1:=rfl
  omega
 case c3=>simp only [List.length_map,List.length_range,List.length_cons,List.length_nil];omega
 case c4=>simp [ts]
 case c5=>rw [e7];exact hw7
 case c6=>simp only [List.length_map,List.length_range];exact Nat.le_trans ‹_› (by decide)
 case loop =>
  intro C
  rw [e7]
  have eu:(rowPath x).map V.str=(List.range (rowN x)).map fun k=>V.str ((rowForms x k).getD 0 ""):=by exact map2
  rw [eu]
  refine CompR.constOk hw7 fun k hk=>⟨_,S7,TT.name (.inl rfl) (nc rfl),nk,TF.nil,?_⟩
  have m4:rowW x k < 4:=Nat.mod_lt _ (by decide)
  refine TE.sub (TE.name rfl (.inl rfl)) TE.int (SubOk.list (hb7 _ m4) (by decide) (by decide) ?_ (by intro _ _;rfl))
  exact getD_map (by rw [show (spell.getD (rowW x k) []).length=4 from rowForms_len x k];decide)
noncomputable def SOk (x:Str):Prop:=PyData.strOk x=true
noncomputable abbrev PS (P:List Str):PyData:=.list (P.map .str)
theorem Deep.strs:∀ {l:List Str},DeepAll st (l.map V.str) (l.map PyData.str)
 | []=>.nil
 | x :: _=>.cons (.str x) Deep.strs
theorem Deep.path {n:Nat} {P:List Str} (h:st[n]?=some (strsO P)):Deep st (.ref n) (PS P):=.list h Deep.strs
theorem can_strs:∀ {l:List Str},(∀ x∈l,SOk x)→PyData.canLayAll0 (l.map PyData.str)=true
 | [],_=>by rfl
 | x :: l,h=>by
  have h1:PyData.strOk x=true:=h x (.head _)
  have h2:=can_strs fun y hy=>h y (.tail _ hy)
  simp [PyData.canLayAll0,PyData.canLay0,h1,h2]
theorem can_path {P:List Str} (h:∀ x∈P,SOk x):(PS P).canLay0=true:=by
 show (PyData.list _).canLay0=true
 simp only [PyData.canLay0];exact can_strs h
theorem depth_strs:∀ {l:List Str},PyData.depthAll (l.map PyData.str)=0
 | []=>by rfl
 | x :: l=>by simp [PyData.depthAll,PyData.depth,depth_strs (l:=l)]
theorem depth_path {P:List Str}:(PS P).depth=1:=by
 show (PyData.list _).depth=1
 simp only [PyData.depth,depth_strs]
theorem eqv_strs:∀ {l m:List Str},PyData.eqvAll (l.map PyData.str) (m.map PyData.str)=(l == m)
 | [],[]=>by rfl
 | [],_ :: _=>by rfl
 | _ :: _,[]=>by rfl
 | x :: l,y :: m=>by
  simp only [List.map_cons,PyData.eqvAll,PyData.eqv,eqv_strs (l:=l) (m:=m)]
  rfl
theorem eqv_path {P R:List Str}:PyData.eqv (PS P) (PS R)=(P == R):=by
 show PyData.eqv (.list _) (.list _)=_
 simp only [PyData.eqv];exact eqv_strs
theorem any_strs {l:List Str} {x:Str}:((l.map PyData.str).any fun y=>PyData.eqv y (.str x))=l.contains x:=by
 induction l with
 | nil=>rfl
 | cons y l ih =>
  simp only [List.map_cons,List.any_cons,ih,PyData.eqv,List.contains_cons]
  rw [show (y == x)=(x == y) from BEq.comm]
theorem TO2.eqPath {n m:Nat} {P R:List Str} (hn:st[n]?=some (strsO P)) (hm:st[m]?=some (strsO R)) (h1:∀ x∈P,SOk x) (h2:∀ x∈R,SOk x):TO2 w ad r st (compareOp .Eq) (.ref n) (.ref m) (.bool (P == R)) st :=
 TO2.val (TO2.eqDeep (Deep.path hn) (Deep.path hm) (can_path h1) (can_path h2) (by rw [depth_path];decide)) (by rw [eqv_path])
theorem TO2.strIn {n:Nat} {l:List Str} {x:Str} (hn:st[n]?=some (strsO l)) (h1:∀ y∈l,SOk y) (h2:SOk x):TO2 w ad r st (compareOp .NotIn) (.str x) (.ref n) (.bool (!l.contains x)) st :=
 TO2.val (TO2.notInList (.list hn Deep.strs) (.str x) (can_strs h1) (by simp only [PyData.canLay0];exact h2) (Nat.zero_le _)) (by rw [any_strs])
noncomputable def PairAt (st:St) (v:V) (d:List Str × Str):Prop:=∃ n,v=.tup2 (.ref n) (.str d.2)∧st[n]?=some (strsO d.1)
noncomputable abbrev PairsAt (st:St) (l:List V) (D:List (List Str × Str)):Prop:=All2 (PairAt st) l D
theorem PairAt.grow {v:V} {d:List Str × Str} (g:St) (h:PairAt st v d):PairAt (st++g) v d:=by
 refine xEA h fun n e h=>?_
 exact ⟨n,e,by rw [List.getElem?_append_left (List.getElem?_eq_some_iff.mp h).1];exact h⟩
noncomputable def asgV:Stmt→Expr
 | .Assign _ v _=>v
 | .Return (some v) _=>v
 | _=>default
noncomputable def cmpR:Expr→Expr
 | .Compare _ _ (x :: _) _=>x
 | _=>default
noncomputable def cElt:Expr→Expr
 | .ListComp e _ _ _=>e
 | _=>default
noncomputable def cGen:Expr→Comprehension
 | .ListComp _ (g :: _) _ _=>g
 | _=>⟨default,default,[],0⟩
noncomputable def cScope:Expr→Scope
 | .ListComp _ _ s _=>s
 | _=>default
noncomputable def EOk (E:List (List Str × Str)):Prop:=∀ d∈E,(∀ x∈d.1,SOk x)∧SOk d.2
noncomputable abbrev dueEnv (pm cd:Value) (L a:Addr):Env:=frameEnv 34 "_law_due" pm cd L a
noncomputable abbrev dueLoc0 (e n:Nat) (P:List Str):Loc:=[(("size":Str),.int (P.length:Nat)),(("entries":Str),.ref e),(("names":Str),.ref n)]
theorem due_comp {a:Addr} {n:Nat} {P:List Str} (hn:st[n]?=some (strsO P)) (hP:∀ x∈P,SOk x) {Ok:St→Prop} (ho:Ok st):∀ {l:List V} {E:List (List Str × Str)},PairsAt st l E→EOk E →
  ∃ us,(∀ (pm cd:Value) (L C:Addr),CompR (CTurn w ad (r + 1) (compEnvC (cScope (asgV (sIn 34 1))) [(("names":Str),L + 1)] C (dueEnv pm cd L a)) [(("names":Str),.ref n)] (cGen (asgV (sIn 34 1))).target (cGen (asgV (sIn 34 1))).ifs (cElt (asgV (sIn 34 1)))) Ok l st us st) ∧
   All2 (fun v (d:List Str × Str)=>v=.tup2 (.ref n) (.str d.2)∧d.1=P) us ((E.filter fun d=>d.1 == P).map fun d=>(P,d.2)):=by
 intro l E h
 induction h with
 | nil=>intro _;exact ⟨[],fun _ _ _ _=>.nil ho,.nil⟩
 | @cons v d l E hd hl ih =>
  intro hE
  refine xEA (ih fun x hx=>hE x (.tail _ hx)) fun us K hus=>?_
  refine xEA hd fun m q'1 hm=>?_;try clear hd;subst q'1
  have hd1:=(hE d (.head _)).1
  have tt:∀ (pm cd:Value) (L C:Addr),TT w ad (r + 1) (compEnvC (cScope (asgV (sIn 34 1))) [(("names":Str),L + 1)] C (dueEnv pm cd L a)) (cGen (asgV (sIn 34 1))).target (.tup2 (.ref m) (.str d.2)) ([(("value":Str),.str d.2)]++[(("path":Str),.ref m)]) :=
   fun pm cd L C=>TT.tup2 (TT.name (.inl rfl) (nc rfl)) (TT.name (.inl rfl) (nc rfl))
  have cp:∀ x y,List.lookup x [(("names":Str),V.ref n)]=some y→List.lookup x ([(("value":Str),V.str d.2)]++[(("path":Str),.ref m)])=none:=fun x y e=>by
   cases List.mem_singleton.mp (mem_lookup e);rfl
  cases hc:d.1 == P with
  | true =>
   refine ⟨.tup2 (.ref n) (.str d.2) :: us,fun pm cd L C=>.take ho ⟨_,st,tt pm cd L C,cp,TF.one (TB.val (TB.cmp (TE.name rfl (.inl rfl)) (TE.name rfl (.inr (.inl rfl))) (TO2.eqPath hm hn hd1 hP)) hc),TE.tup2 (TL.cons (ns rfl) (TE.name rfl (.inr (.inl rfl))) (TL.cons (ns rfl) (TE.name rfl (.inl rfl)) TL.nil))⟩ (K pm cd L C),?_⟩
   rw [List.filter_cons_of_pos (by exact hc),List.map_cons]
   exact .cons ⟨rfl,rfl⟩ hus
  | false =>
   refine ⟨us,fun pm cd L C=>.skip ho ⟨_,st,tt pm cd L C,cp,TF.one (TB.val (TB.cmp (TE.name rfl (.inl rfl)) (TE.name rfl (.inr (.inl rfl))) (TO2.eqPath hm hn hd1 hP)) hc),rfl⟩ (K pm cd L C),?_⟩
   rw [List.filter_cons_of_neg (by rw [hc];exact Bool.false_ne_true)]
   exact hus
noncomputable def firstsStep (P:List Str) (fs:List Str) (Q:List Str):List Str :=
 if Q.take P.length == P && (decide (P.length < Q.length) && !fs.contains (Q.getD P.length "")) then fs++[Q.getD P.length ""] else fs
noncomputable def firstsF (E:List (List Str × Str)) (P:List Str):List Str:=E.foldl (fun fs d=>firstsStep P fs d.1) []
theorem get_left {A:St} {i:Nat} {o:MObj} (g:St) (h:A[i]?=some o):(A++g)[i]?=some o:=by
 rw [List.getElem?_append_left (List.getElem?_eq_some_iff.mp h).1];exact h
theorem sok_getD {l:List Str} {i:Nat} (h:∀ x∈l,SOk x):SOk (l.getD i ""):=by
 by_cases hi:i < l.length
 ·have:=h l[i] (List.getElem_mem hi)
  simpa [hi] using this
 ·simp [hi]
  show PyData.strOk (Str.ofString "")=true
  kernel_rfl
noncomputable abbrev dueLoc1 (e n:Nat) (P:List Str) (D:Nat):Loc:=(("firsts":Str),V.ref (D + 1)) :: (("due":Str),V.ref D) :: dueLoc0 e n P
theorem due_turn {pm cd:Value} {L a:Addr} {e n m:Nat} {P fs:List Str} {d:List Str × Str} {us:List V} {g:St} (G:Globs w ad) (hn:st[n]?=some (strsO P)) (hP:∀ x∈P,SOk x) (hm:st[m]?=some (strsO d.1)) (hd:∀ x∈d.1,SOk x) (hf:∀ x∈fs,SOk x) (hl:d.1.length < 2 ^ 20) (hfl:fs.length < 2 ^ 20) :
  TS w ad (r + 2) (dueEnv pm cd L a) (([(("value":Str),.str d.2)]++[(("path":Str),.ref m)])++dueLoc1 e n P st.length) ((st++[MObj.list us])++strsO fs :: g) (forB (sIn 34 3)) none (dueLoc1 e n P st.length)
   ((st++[MObj.list us])++strsO (firstsStep P fs d.1) :: (g++[strsO (d.1.take P.length)])):=by
 have hm1:∀ g',((st++[MObj.list us])++g')[m]?=some (strsO d.1):=fun g'=>get_left _ (get_left _ hm)
 have hn1:∀ g',((st++[MObj.list us])++g')[n]?=some (strsO P):=fun g'=>get_left _ (get_left _ hn)
 have e1:((st++[MObj.list us])++strsO fs :: g)++[MObj.list ((d.1.map V.str).take P.length)]=(st++[MObj.list us])++strsO fs :: (g++[strsO (d.1.take P.length)]):=by
  simp [strsO,List.map_take]
 have hs1:((st++[MObj.list us])++strsO fs :: (g++[strsO (d.1.take P.length)]))[((st++[MObj.list us])++strsO fs :: g).length]?=some (strsO (d.1.take P.length)):=by
  have:(st++[MObj.list us])++strsO fs :: (g++[strsO (d.1.take P.length)])=((st++[MObj.list us])++strsO fs :: g)++[strsO (d.1.take P.length)]:=by simp
  rw [this];exact at0
 have hf1:((st++[MObj.list us])++strsO fs :: (g++[strsO (d.1.take P.length)]))[st.length + 1]?=some (strsO fs):=by
  rw [List.append_assoc,List.getElem?_append_right (Nat.le_succ _)]
  simp
 have slen:(st++[MObj.list us]).length=st.length + 1:=by exact lenS
 have sub:∀ x v,List.lookup x (dueLoc1 e n P st.length)=some v→List.lookup x (([(("value":Str),.str d.2)]++[(("path":Str),.ref m)])++dueLoc1 e n P st.length)=some v:=sub_skip (sub_skip (fun _ _ h=>h) rfl) rfl
 have hl24:(d.1.map V.str).length < 2 ^ 24:=by simp;exact Nat.lt_of_lt_of_le ‹_› (by decide)
 have cond:TB w ad (r + 2) (dueEnv pm cd L a) (([(("value":Str),.str d.2)]++[(("path":Str),.ref m)])++dueLoc1 e n P st.length) ((st++[MObj.list us])++strsO fs :: g) (isTrue (ifT ((forB (sIn 34 3)).getD 0 (.Pass default))) (dueEnv pm cd L a) (eval (ifT ((forB (sIn 34 3)).getD 0 (.Pass default))) (dueEnv pm cd L a)))
   (d.1.take P.length == P && (decide (P.length < d.1.length) && !fs.contains (d.1.getD P.length ""))) ((st++[MObj.list us])++strsO fs :: (g++[strsO (d.1.take P.length)])):=by
  have c1:=fun whole=>TB.cmp (w:=w) (ad:=ad) (r:=r + 2) (env:=dueEnv pm cd L a) (loc:=([(("value":Str),.str d.2)]++[(("path":Str),.ref m)])++dueLoc1 e n P st.length) (whole:=whole) (op:=.Eq)
   (l:=.Subscript (.Name "path" ⟨199,11,199,15⟩) (.Slice none (some (.Name "size" ⟨199,17,199,21⟩)) none ⟨199,16,199,21⟩) ⟨199,11,199,22⟩) (x:=.Name "names" ⟨199,26,199,31⟩) (pos:=⟨199,11,199,31⟩)
   (TE.sliceTo (TE.name (r:=r + 2) rfl (.inl rfl)) (TE.name (r:=r + 2) rfl (.inl rfl)) (hm1 (strsO fs :: g)) hl24) (TE.name rfl (.inr (.inl rfl))) (by rw [e1];exact TO2.eqPath hs1 (hn1 _) (fun x hx=>hd x (List.mem_of_mem_take hx)) hP)
  cases h1:d.1.take P.length == P with
  | false =>
   rw [h1] at c1
   exact TB.andF (c1 _)
  | true =>
   rw [h1] at c1
   rw [Bool.true_and]
   refine TB.andT (c1 _) ?_
   by_cases h2:P.length < d.1.length
   ·rw [decide_eq_true h2,Bool.true_and]
    refine TB.andT (TB.val (TB.cmp (TE.callB (by rfl) G.len (by decide) rfl (TL.cons (ns rfl) (TE.name rfl (.inl rfl)) TL.nil) (TO.len (hm1 _) hl24)) (TE.name rfl (.inl rfl)) TO2.gt) (decide_eq_true (by simpa using h2))) ?_
    have c3:TB w ad (r + 2) (dueEnv pm cd L a) (([(("value":Str),.str d.2)]++[(("path":Str),.ref m)])++dueLoc1 e n P st.length) ((st++[MObj.list us])++strsO fs :: (g++[strsO (d.1.take P.length)])) (isTrue (.Compare (.Subscript (.Name "path" ⟨199,58,199,62⟩) (.Name "size" ⟨199,63,199,67⟩) ⟨199,58,199,68⟩) [.NotIn] [.Name "firsts" ⟨199,76,199,82⟩] ⟨199,58,199,82⟩) (dueEnv pm cd L a) (eval (.Compare (.Subscript (.Name "path" ⟨199,58,199,62⟩) (.Name "size" ⟨199,63,199,67⟩) ⟨199,58,199,68⟩) [.NotIn] [.Name "firsts" ⟨199,76,199,82⟩] ⟨199,58,199,82⟩) (dueEnv pm cd L a)))
      (!fs.contains (d.1.getD P.length "")) ((st++[MObj.list us])++strsO fs :: (g++[strsO (d.1.take P.length)])) :=
     TB.cmp (TE.sub (TE.name rfl (.inl rfl)) (TE.name rfl (.inl rfl)) (SubOk.listN (hm1 _) (by omega) (getD_map h2))) (TE.name rfl (.inl rfl)) (TO2.strIn hf1 hf (sok_getD hd))
    cases h3:!fs.contains (d.1.getD P.length "") with
    | true=>rw [h3] at c3;exact TB.andT c3 TB.andNil
    | false=>rw [h3] at c3;exact TB.andF c3
   ·rw [decide_eq_false h2,Bool.false_and]
    exact TB.andF (TB.val (TB.cmp (TE.callB (by rfl) G.len (by decide) rfl (TL.cons (ns rfl) (TE.name rfl (.inl rfl)) TL.nil) (TO.len (hm1 _) hl24)) (TE.name rfl (.inl rfl)) TO2.gt) (decide_eq_false (by simpa using h2)))
 unfold firstsStep
 cases hc:(d.1.take P.length == P && (decide (P.length < d.1.length) && !fs.contains (d.1.getD P.length ""))) with
 | true =>
  rw [hc] at cond
  rw [if_pos rfl]
  simp only [Bool.and_eq_true,decide_eq_true_eq] at hc
  refine TS.sub (TS1.cons (TS1.ifT cond (TS.end (TS1.cons (TS1.append (st0:=st++[MObj.list us]) (l:=fs.map V.str) (v:=.str (d.1.getD P.length "")) (TE.val (TE.name rfl (.inl rfl)) (by rw [slen])) (TE.sub (TE.name rfl (.inl rfl)) (TE.name rfl (.inl rfl)) (SubOk.listN (hm1 _) (by omega) (getD_map hc.2.1))) (by rw [slen];exact hf1) (by simp;exact Nat.lt_of_lt_of_le ‹_› (by decide)) (ns rfl)) TS.nil) (by simp [strsO]))) TS.nil) sub
 | false =>
  rw [hc] at cond
  rw [if_neg Bool.false_ne_true]
  exact TS.sub (TS1.cons (TS1.ifF cond TS.nil) TS.nil) sub
theorem get_mid {A G:St} {a b:MObj} {k:Nat} (h:k≠A.length):(A++a :: G)[k]?=(A++b :: G)[k]?:=by
 rcases Nat.lt_or_ge k A.length with h1 | h1
 ·rw [List.getElem?_append_left h1,List.getElem?_append_left h1]
 ·rw [List.getElem?_append_right h1,List.getElem?_append_right h1]
  cases hk:k - A.length with
  | zero=>exact absurd (by omega) h
  | succ j=>simp
theorem TS1.extend {o e:Expr} {apos pos pos':Pos} {st0 g:St} {l l':List V} {d:Nat} (To:TE w ad r env loc st o (.ref st0.length) st₁) (Te:TE w ad r env loc st₁ e (.ref d) (st0++.list l :: g)) (hst:st₁[st0.length]?=some (.list l)) (hd:(st0++MObj.list l :: g)[d]?=some (.list l')) (hl:l.length + l'.length < 2 ^ 24) (hns:∀ x p,e≠.Starred x p)
  (hE:∃ pl,eval (.Call (.Attribute o ("extend":Str) apos) [e] [] pos) env=(do
   let ov ← eval o env
   standAt apos.atName
   let (f,first) ← holding [ov] (getMethod ov ("extend":Str) pl)
   callWith pos f first (backTo pos (starEach [e] env)) (backToKw pos (keywordEach [] env))):=by exact ⟨_,by with_unfolding_all rfl⟩)
  (he:starEach [e] env=(false,eval e env) :: starEach [] env:=by rfl)
  (hi:interactive env=false:=by rfl) (hs:swapsWith (.Call (.Attribute o ("extend":Str) apos) [e] [] pos) none pos'.line env=pure false:=by rfl) :
  TS1 w ad r env loc st (.Expr (.Call (.Attribute o ("extend":Str) apos) [e] [] pos) pos') none loc (st0++.list (l++l') :: g):=by
 have A:=TO.extend (w:=w) (ad:=ad) (r:=r) (st:=st0++.list l :: g) (n:=st0.length) (m:=d) (l:=l) (l':=l') (by exact at0) hd hl
 have e1:(st0++.list l :: g).set st0.length (.list (l++l'))=st0++.list (l++l') :: g:=by exact set0
 rw [e1] at A
 exact TS1.expr (TE.meth To (TM.list hst F.slot_list_extend F.type_list_extend) Keeps1.builtin (TL.cons hns Te TL.nil) A hE he) hi hs
noncomputable def ownF (E:List (List Str × Str)) (P:List Str):List (List Str × Str):=(E.filter fun d=>d.1 == P).map fun d=>(P,d.2)
noncomputable def dueF:Nat→List (List Str × Str)→List Str→List (List Str × Str)
 | 0,E,P=>ownF E P
 | f + 1,E,P=>ownF E P++(firstsF E P).flatMap fun x=>dueF f E (P++[x])
theorem firstsStep_len (P fs Q:List Str):(firstsStep P fs Q).length≤fs.length + 1:=by
 unfold firstsStep;split <;> simp
theorem firsts_len {P:List Str}:∀ (E:List (List Str × Str)) (fs:List Str),(E.foldl (fun fs d=>firstsStep P fs d.1) fs).length≤fs.length + E.length
 | [],fs=>by simp
 | d :: E,fs=>by
  have:=firsts_len (P:=P) E (firstsStep P fs d.1)
  have:=firstsStep_len P fs d.1
  simp only [List.foldl_cons,List.length_cons]
  omega
theorem firsts_sok {P:List Str}:∀ (E:List (List Str × Str)) (fs:List Str),EOk E→(∀ x∈fs,SOk x)→∀ x∈E.foldl (fun fs d=>firstsStep P fs d.1) fs,SOk x
 | [],_,_,h=>h
 | d :: E,fs,hE,h=>by
  rw [List.foldl_cons]
  refine firsts_sok E _ (fun y hy=>hE y (.tail _ hy)) ?_
  unfold firstsStep
  split
  ·intro x hx
   rcases List.mem_append.mp hx with hx | hx
   ·exact h x hx
   ·rw [List.mem_singleton.mp hx];exact sok_getD (hE d (.head _)).1
  ·exact h
theorem own_len (E:List (List Str × Str)) (P:List Str):(ownF E P).length≤E.length:=by
 unfold ownF;rw [List.length_map];exact List.length_filter_le ..
theorem flat_len {α β:Type} {k:α→List β} {b:Nat}:∀ (l:List α),(∀ x∈l,(k x).length≤b)→(l.flatMap k).length≤l.length * b
 | [],_=>by exact Nat.zero_le _
 | x :: l,h=>by
  have:=flat_len l fun y hy=>h y (.tail _ hy)
  have:=h x (.head _)
  simp only [List.flatMap_cons,List.length_append,List.length_cons,Nat.succ_mul]
  omega
noncomputable def dueB (n:Nat):Nat→Nat
 | 0=>n
 | f + 1=>n + n * dueB n f
theorem due_len (E:List (List Str × Str)):∀ (f:Nat) (P:List Str),(dueF f E P).length≤dueB E.length f
 | 0,P=>own_len E P
 | f + 1,P=>by
  have h1:=own_len E P
  have h2:=flat_len (k:=fun x=>dueF f E (P++[x])) (b:=dueB E.length f) (firstsF E P) fun x _=>due_len E f (P++[x])
  have h3:(firstsF E P).length≤E.length:=by have:=firsts_len (P:=P) E [];simpa [firstsF] using this
  have h4:=Nat.mul_le_mul_right (dueB E.length f) h3
  unfold dueF dueB
  rw [List.length_append]
  omega
noncomputable def PairIn (st:St) (n0 B:Nat) (v:V) (d:List Str × Str):Prop:=∃ k,v=.tup2 (.ref k) (.str d.2)∧st[k]?=some (strsO d.1)∧(k=n0∨B < k)
theorem PairIn.grow {n0 B:Nat} {v:V} {d:List Str × Str} (g:St) (h:PairIn st n0 B v d):PairIn (st++g) n0 B v d:=by
 refine xEAA h fun k e h q=>?_
 exact ⟨k,e,get_left _ h,q⟩
theorem PairIn.mid {A G:St} {a b:MObj} {n0:Nat} {v:V} {d:List Str × Str} (hn:n0 < A.length) (h:PairIn (A++a :: G) n0 A.length v d):PairIn (A++b :: G) n0 A.length v d:=by
 refine xEAA h fun k e h q=>?_
 refine ⟨k,e,?_,q⟩
 rw [← get_mid (a:=a) (by omega)];exact h
theorem PairIn.at {n0 B:Nat} {v:V} {d:List Str × Str} (h:PairIn st n0 B v d):PairAt st v d:=let ⟨k,e,h,_⟩:=h;⟨k,e,h⟩
theorem due_loop1 {a:Addr} {e n:Nat} {P:List Str} {us l0:List V} (G:Globs w ad) (hn:st[n]?=some (strsO P)) (hP:∀ x∈P,SOk x) (he:st[e]?=some (.list l0)):∀ {l:List V} {E:List (List Str × Str)},PairsAt st l E→EOk E→(∀ d∈E,d.1.length < 2 ^ 20)→∀ (fs:List Str) (g:St),(∀ x∈fs,SOk x)→fs.length + E.length < 2 ^ 20 →
  ∃ g',∀ (pm cd:Value) (L:Addr),LoopR (Turn w ad (r + 2) (dueEnv pm cd L a) (forT (sIn 34 3)) (forB (sIn 34 3))) (fun st'=>st'[e]?=some (.list l0)) l (dueLoc1 e n P st.length) ((st++[MObj.list us])++strsO fs :: g) none (dueLoc1 e n P st.length) ((st++[MObj.list us])++strsO (E.foldl (fun fs d=>firstsStep P fs d.1) fs) :: g'):=by
 intro l E h
 induction h with
 | nil=>intro _ _ fs g _ _;exact ⟨g,fun pm cd L=>.nil (get_left _ (get_left _ he))⟩
 | @cons v d l E hd hl ih =>
  intro hE hlen fs g hfs hz
  refine xEA hd fun m q'1 hm=>?_;try clear hd;subst q'1
  simp only [List.length_cons] at hz
  have hstep:(∀ x∈firstsStep P fs d.1,SOk x):=by
   have:=firsts_sok (P:=P) [d] fs (fun y hy=>by rw [List.mem_singleton.mp hy];exact hE d (.head _)) hfs
   simpa using this
  have hsl:=firstsStep_len P fs d.1
  refine xE (ih (fun x hx=>hE x (.tail _ hx)) (fun x hx=>hlen x (.tail _ hx)) (firstsStep P fs d.1) (g++[strsO (d.1.take P.length)]) hstep (by omega)) fun g' K=>?_
  refine ⟨g',fun pm cd L=>?_⟩
  rw [List.foldl_cons]
  exact .cons (get_left _ (get_left _ he)) ⟨_,TT.tup2 (TT.name (.inl rfl) (nc rfl)) (TT.name (.inl rfl) (nc rfl)),due_turn (r:=r) G hn hP hm (hE d (.head _)).1 hfs (hlen d (.head _)) (by omega)⟩ (K pm cd L)
noncomputable def DueCall (w:World) (ad:Adr) (R:Nat) (a:Addr) (e:Nat) (E:List (List Str × Str)) (f:Nat) (st:St) (n:Nat) (P:List Str):Prop :=
 ∃ g d out,TC w ad R a st [.ref e,.ref n] (.ref d) (st++g)∧(st++g)[d]?=some (.list out)∧All2 (PairIn (st++g) n st.length) out (dueF f E P)
theorem due_loop2 {a:Addr} {R e n f:Nat} {P fs:List Str} {E:List (List Str × Str)} (hf:FnAt ad "_law_due" 34 a) (hn:st[n]?=some (strsO P)) (hP:P.length < 2 ^ 20) (hc:∀ x∈fs,∀ Y n',(st++Y)[n']?=some (strsO (P++[x]))→DueCall w ad R a e E f (st++Y) n' (P++[x])) :
  ∀ (xs:List Str),(∀ x∈xs,x∈fs)→∀ (cur:List V) (G:St),G[0]?=some (strsO fs)→cur.length + (xs.flatMap fun x=>dueF f E (P++[x])).length < 2 ^ 24 →
  ∃ out X,(∀ (pm cd:Value) (L:Addr),LoopR (Turn w ad R (dueEnv pm cd L a) (forT (sIn 34 4)) (forB (sIn 34 4))) (fun st'=>st'[st.length + 1]?=some (strsO fs)) (xs.map V.str) (dueLoc1 e n P st.length) (st++MObj.list cur :: G) none (dueLoc1 e n P st.length) (st++MObj.list (cur++out) :: (G++X))) ∧
   All2 (PairIn (st++MObj.list (cur++out) :: (G++X)) n st.length) out (xs.flatMap fun x=>dueF f E (P++[x])):=by
 have nlt:n < st.length:=(List.getElem?_eq_some_iff.mp hn).1
 have okS:∀ (cur:List V) (G:St),G[0]?=some (strsO fs)→(st++MObj.list cur :: G)[st.length + 1]?=some (strsO fs):=fun cur G h=>by
  rw [List.getElem?_append_right (Nat.le_succ _)]
  simpa using h
 intro xs
 induction xs with
 | nil =>
  intro _ cur G hG _
  refine ⟨[],[],fun pm cd L=>?_,.nil⟩
  rw [List.append_nil,List.append_nil]
  exact .nil (okS cur G hG)
 | cons x xs ih =>
  intro hx cur G hG hz
  let S:St:=st++MObj.list cur :: G
  let S2:St:=(S++[MObj.list [V.str x]])++[MObj.list (P.map V.str++[V.str x])]
  have eS2:S2=st++(MObj.list cur :: (G++[strsO [x],strsO (P++[x])])):=by
   show ((st++MObj.list cur :: G)++[MObj.list [V.str x]])++[MObj.list (P.map V.str++[V.str x])]=_
   simp [strsO]
  have hn2:S2[S.length + 1]?=some (strsO (P++[x])):=by
   show ((S++[MObj.list [V.str x]])++[MObj.list (P.map V.str++[V.str x])])[S.length + 1]?=_
   rw [List.getElem?_append_right (by exact leS)]
   simp [strsO]
  have CC:=hc x (hx x (.head _)) (MObj.list cur :: (G++[strsO [x],strsO (P++[x])])) (S.length + 1) (by rw [← eS2];exact hn2)
  rw [← eS2] at CC
  refine xEEEAA CC fun g2 d out1 C hd hout=>?_
  have eS3:S2++g2=st++MObj.list cur :: (G++([strsO [x],strsO (P++[x])]++g2)):=by rw [eS2];simp
  rw [eS3] at C hd hout
  have zc:out1.length=(dueF f E (P++[x])).length:=hout.length
  rw [List.flatMap_cons,List.length_append] at hz
  refine xEEA (ih (fun y hy=>hx y (.tail _ hy)) (cur++out1) (G++([strsO [x],strsO (P++[x])]++g2)) (get_left _ hG) (by rw [List.length_append];omega)) fun out2 X2 K hout2=>?_
  refine ⟨out1++out2,([strsO [x],strsO (P++[x])]++g2)++X2,fun pm cd L=>?_,?_⟩
  ·have e1:st++MObj.list (cur++(out1++out2)) :: (G++(([strsO [x],strsO (P++[x])]++g2)++X2))=st++MObj.list ((cur++out1)++out2) :: ((G++([strsO [x],strsO (P++[x])]++g2))++X2):=by simp
   rw [e1]
   refine .cons (okS cur G hG) ⟨_,TT.name (.inl rfl) (nc rfl),?_⟩ (K pm cd L)
   have hnS:(S++[MObj.list [V.str x]])[n]?=some (.list (P.map V.str)):=get_left _ (get_left _ hn)
   refine TS.sub (TS1.cons (TS1.extend (st0:=st) (l:=cur) (l':=out1) (d:=d) (TE.name rfl (.inl rfl)) (TE.callG hf rfl (TL.cons (ns rfl) (TE.name rfl (.inl rfl)) (TL.cons (ns rfl) (TE.bin (TE.name rfl (.inr (.inl rfl))) (TE.list (vs:=[V.str x]) (TL.cons (ns rfl) (TE.name rfl (.inl rfl)) TL.nil) (by show 1≤sizeLine;decide)) (TO2.lcat (l':=[V.str x]) hnS (by exact at0) ?c)) TL.nil)) ?call) (by exact at0) hd (by omega) (ns rfl)) TS.nil) (sub_skip (fun _ _ h=>h) rfl)
   case c=>simp only [List.length_map,List.length_cons,List.length_nil];exact Nat.lt_of_le_of_lt ‹_› (by decide)
   case call =>
    have:(S++[MObj.list [V.str x]]).length=S.length + 1:=by exact lenS
    rw [this]
    exact C
  ·rw [List.flatMap_cons]
   have e1:st++MObj.list (cur++(out1++out2)) :: (G++(([strsO [x],strsO (P++[x])]++g2)++X2))=st++MObj.list ((cur++out1)++out2) :: ((G++([strsO [x],strsO (P++[x])]++g2))++X2):=by simp
   rw [e1]
   refine .append (hout.imp fun v dd h=>?_) hout2
   have sl:st.length < S.length:=by show st.length < (st++MObj.list cur :: G).length;simp
   have sl2:S.length≤S2.length:=by show S.length≤((S++[MObj.list [V.str x]])++[MObj.list (P.map V.str++[V.str x])]).length;simp
   have h':PairIn (st++MObj.list cur :: (G++([strsO [x],strsO (P++[x])]++g2))) n st.length v dd:=by
    refine xEAA h fun k e h q=>?_
    exact ⟨k,e,h,.inr (by omega)⟩
   have h3:=(PairIn.mid (b:=MObj.list ((cur++out1)++out2)) nlt h').grow X2
   rw [List.append_assoc,List.cons_append] at h3
   exact h3
theorem firsts_nil {P:List Str}:∀ (E:List (List Str × Str)),(∀ d∈E,d.1.length≤P.length)→E.foldl (fun fs d=>firstsStep P fs d.1) []=[]
 | [],_=>rfl
 | d :: E,h=>by
  have h1:=h d (.head _)
  have e:firstsStep P [] d.1=[]:=by
   unfold firstsStep
   rw [if_neg]
   simp only [Bool.and_eq_true,decide_eq_true_eq]
   rintro ⟨_,h2,_⟩
   exact noL ‹_› ‹_›
  rw [List.foldl_cons,e]
  exact firsts_nil E fun x hx=>h x (.tail _ hx)
theorem PairsAt.grow {l:List V} {D:List (List Str × Str)} (g:St) (h:PairsAt st l D):PairsAt (st++g) l D:=h.imp fun _ _ q=>q.grow g
theorem due_call {a:Addr} {R e n f:Nat} {P:List Str} {E:List (List Str × Str)} {l:List V} (G:Globs w ad) (hf:FnAt ad "_law_due" 34 a) (hR:2≤R) (hn:st[n]?=some (strsO P)) (hP:∀ x∈P,SOk x) (hPl:P.length < 2 ^ 20) (he:st[e]?=some (.list l)) (hl:PairsAt st l E) (hE:EOk E) (hlen:∀ d∈E,d.1.length < 2 ^ 20) (hz:E.length < 2 ^ 20)
  (hc:∀ x∈firstsF E P,∀ Y n',(st++Y)[n']?=some (strsO (P++[x]))→DueCall w ad R a e E f (st++Y) n' (P++[x])) (hb:(ownF E P++(firstsF E P).flatMap fun x=>dueF f E (P++[x])).length < 2 ^ 24) :
  ∃ g d out,TC w ad (R + 1) a st [.ref e,.ref n] (.ref d) (st++g)∧(st++g)[d]?=some (.list out)∧All2 (PairIn (st++g) n st.length) out (ownF E P++(firstsF E P).flatMap fun x=>dueF f E (P++[x])):=by
 refine xE (Nat.exists_eq_add_of_le' hR) fun R q'1=>?_;subst q'1
 have nlt:n < st.length:=(List.getElem?_eq_some_iff.mp hn).1
 refine xEA (due_comp (w:=w) (ad:=ad) (r:=R + 1) (a:=a) hn hP (Ok:=fun st'=>st'[e]?=some (.list l)) he hl hE) fun us K0 hus=>?_
 refine xE (due_loop1 (w:=w) (ad:=ad) (r:=R) (a:=a) (us:=us) G hn hP he hl hE hlen [] [] nm (by simpa using hz)) fun g1 K1=>?_
 have zus:us.length=(ownF E P).length:=hus.length
 rw [List.length_append] at hb
 refine xEEA (due_loop2 hf hn hPl hc (firstsF E P) (fun _ h=>h) us (strsO (firstsF E P) :: g1) rfl (by omega)) fun out X K2 hout=>?_
 refine ⟨MObj.list (us++out) :: (strsO (firstsF E P) :: g1++X),st.length,us++out,?_,by exact at0,?_⟩
 ·refine TC.def (ps:=["entries","names"]) hf (fun pm cd=>len2 fun _ _=>rfl) (by decide) rfl (by decide) (by decide) ?m
  intro pm cd L
  refine TR.cons (TS1.assign (TE.val (TE.callB (by rfl) G.len (by decide) rfl (TL.cons (ns rfl) (TE.name rfl (.inr (.inl rfl))) TL.nil) (TO.len hn (by simp;exact Nat.lt_of_lt_of_le ‹_› (by decide)))) (v:=.int (P.length:Nat)) (by simp)) (.inl rfl) (nc rfl)) ?_
  refine TR.cons (t:=sIn 34 1) (loc₁:=(("due":Str),V.ref st.length) :: dueLoc0 e n P) (st₁:=st++[MObj.list us]) ?_ ?_
  ·refine TS1.assignComp (capt:=[(("names":Str),.ref n)]) [(("names":Str),L + 1)] (TX.of (TE.name rfl (.inl rfl)) (TI.list he)) (K0 pm cd L) (.inr ⟨_,_,_,rfl⟩) rfl (by decide) rfl (by decide) ?cl ?clp ?capt ?sz (by intro _;rfl) rfl (.inl rfl) (nc rfl)
   case cl =>
    intro p hp
    rw [List.mem_singleton.mp hp]
    exact .head _
   case clp=>exact .cons nofun .nil
   case capt =>
    intro y v ev
    cases List.mem_singleton.mp (mem_lookup ev)
    exact ⟨rfl,.inl rfl,rfl,fun q=>nomatch (show some NameKind.cell=some NameKind.local from q)⟩
   case sz =>
    have:l.length=E.length:=hl.length
    exact Nat.le_of_lt (Nat.lt_of_lt_of_le (by omega:l.length < 2 ^ 20) (by decide))
  ·refine TR.cons (TS1.assign (TE.val (TE.list TL.nil (Nat.zero_le _)) (v:=.ref (st.length + 1)) (by simp)) (.inl rfl) (nc rfl)) ?_
   have k1:=K1 pm cd L
   have k2:=K2 pm cd L
   have eA:∀ Z:List Str,(st++[MObj.list us])++strsO Z :: g1=st++MObj.list us :: (strsO Z :: g1):=fun Z=>by exact List.append_assoc ..
   have e1:E.foldl (fun fs d=>firstsStep P fs d.1) []=firstsF E P:=rfl
   rw [e1,eA] at k1
   refine TR.cons (t:=sIn 34 3) (TS1.for (TX.of (TE.name rfl (.inl rfl)) (TI.list (get_left _ (get_left _ he)))) k1 (.inr ⟨_,_,_,rfl⟩)) ?_
   refine TR.cons (t:=sIn 34 4) (TS1.for (vals:=(firstsF E P).map V.str) (TX.of (TE.name rfl (.inl rfl)) (TI.list (by rw [List.getElem?_append_right (Nat.le_succ _)];simp [strsO]))) k2 (.inl ⟨rfl,_,_,rfl⟩)) ?_
   exact TR.ret (TE.name rfl (.inl rfl))
 ·refine .append (hus.imp fun v d h=>?_) hout
  obtain ⟨rfl,h2⟩:=h
  refine ⟨n,rfl,?_,.inl rfl⟩
  rw [h2];exact get_left _ hn
theorem TC.due {a:Addr} {E:List (List Str × Str)} (G:Globs w ad) (hf:FnAt ad "_law_due" 34 a) (hE:EOk E) (hlen:∀ d∈E,d.1.length < 2 ^ 19) (hz:E.length < 2 ^ 20):∀ (f:Nat) {st:St} {e n:Nat} {P:List Str} {l:List V},st[n]?=some (strsO P)→(∀ x∈P,SOk x)→P.length + f < 2 ^ 20→st[e]?=some (.list l)→PairsAt st l E→(∀ d∈E,d.1.length≤P.length + f)→dueB E.length f < 2 ^ 24 →
  DueCall w ad (r + 3 + f) a e E f st n P:=by
 intro f
 induction f with
 | zero =>
  intro st e n P l hn hP hPl he hl hm hb
  have e0:firstsF E P=[]:=firsts_nil E hm
  have:=due_call (f:=0) (R:=r + 2) G hf (by exact Nat.le_add_left _ _) hn hP (by omega) he hl hE (fun d hd=>Nat.lt_of_lt_of_le (hlen d hd) (by decide)) hz (by rw [e0];nofun) (by
   rw [e0]
   have:=due_len E 0 P
   simp only [dueF] at this
   simpa using Nat.lt_of_le_of_lt this hb)
  rw [e0] at this
  simpa [DueCall,dueF] using this
 | succ f ih =>
  intro st e n P l hn hP hPl he hl hm hb
  have hfs:=firsts_sok (P:=P) E [] hE nm
  have key:=due_call (f:=f) (R:=r + 3 + f) G hf (by omega) hn hP (by omega) he hl hE (fun d hd=>Nat.lt_of_lt_of_le (hlen d hd) (by decide)) hz (fun x hx Y n' hn'=>ih (l:=l) hn' (fun y hy=>by
   rcases List.mem_append.mp hy with h | h
   ·exact hP y h
   ·rw [List.mem_singleton.mp h];exact hfs x hx) (by simp;omega) (get_left _ he) (hl.grow Y) (fun d hd=>by have:=hm d hd;simp;omega) (by
    simp only [dueB] at hb
    by_cases h0:E.length=0
    ·have:∀ f,dueB 0 f=0:=fun f=>by cases f <;> simp [dueB]
     rw [h0,this];decide
    ·have:dueB E.length f≤E.length * dueB E.length f:=Nat.le_mul_of_pos_left _ (Nat.pos_of_ne_zero h0)
     omega)) (by
   have:=due_len E (f + 1) P
   simp only [dueF] at this
   exact Nat.lt_of_le_of_lt this hb)
  exact key
noncomputable abbrev Tab:=List (List Str × Nat)
noncomputable def kidOf (P Q:List Str):Option Str:=if Q.dropLast=P then Q.getLast? else none
noncomputable def kids (T:Tab) (P:List Str):List (Str × V):=T.filterMap fun q=>(kidOf P q.1).map fun x=>(x,V.ref (q.2 + 2))
theorem kidOf_snoc (P:List Str) (x:Str):kidOf P (P++[x])=some x:=by simp [kidOf]
theorem kidOf_some {P Q:List Str} {x:Str} (h:kidOf P Q=some x):Q=P++[x]:=by
 unfold kidOf at h
 split at h
 ·next e =>
  rw [← e]
  refine xE (List.getLast?_eq_some_iff.mp h) fun ys q'1=>?_;subst q'1
  simp
 ·exact nsome h
structure Tree (st:St) (T:Tab) (val:List Str→List Str) (fr:List Str→Option Nat):Prop where
 at_:∀ q∈T,st[q.2]?=some (strsO (val q.1))∧st[q.2 + 1]?=some (.fdd true (onV V.str (kids T q.1)) (fr q.1))∧st[q.2 + 2]?=some (.pair (.ref q.2) (.ref (q.2 + 1)))
 nodup:(T.map (·.1)).Nodup
 apart:∀ x∈T,∀ y∈T,x≠y→x.2 + 3≤y.2∨y.2 + 3≤x.2
 closed:∀ q∈T,q.1≠[]→∃ p∈T,p.1=q.1.dropLast
variable {T:Tab} {val:List Str→List Str} {fr:List Str→Option Nat}
theorem nodup_uniq {α β:Type} {f:α→β}:∀ {l:List α},(l.map f).Nodup→∀ {x y:α},x∈l→y∈l→f x=f y→x=y
 | a :: l,h,x,y,hx,hy,e=>by
  rw [List.map_cons,List.nodup_cons] at h
  rcases List.mem_cons.mp hx with h1 | h1
  ·rcases List.mem_cons.mp hy with h2 | h2
   ·rw [h1,h2]
   ·exact absurd (List.mem_map.mpr ⟨y,h2,by rw [← e,h1]⟩) h.1
  ·rcases List.mem_cons.mp hy with h2 | h2
   ·exact absurd (List.mem_map.mpr ⟨x,h1,by rw [e,h2]⟩) h.1
   ·exact nodup_uniq h.2 h1 h2 e
theorem Tree.uniq (H:Tree st T val fr) {x y:List Str × Nat} (hx:x∈T) (hy:y∈T) (e:x.1=y.1):x=y:=by
 exact nodup_uniq H.nodup hx hy e
theorem Tree.lt (H:Tree st T val fr) {q:List Str × Nat} (h:q∈T):q.2 + 2 < st.length:=(List.getElem?_eq_some_iff.mp (H.at_ q h).2.2).1
theorem Tree.same {st':St} (H:Tree st T val fr) (h:∀ q∈T,∀ k,k < 3→st'[q.2 + k]?=st[q.2 + k]?):Tree st' T val fr :=
 ⟨fun q hq=>by
  refine xAA (H.at_ q hq) fun a b c=>?_
  exact ⟨(h q hq 0 (by decide)).trans a,(h q hq 1 (by decide)).trans b,(h q hq 2 (by decide)).trans c⟩,H.nodup,H.apart,H.closed⟩
theorem Tree.grow (H:Tree st T val fr) (g:St):Tree (st++g) T val fr :=
 H.same fun q hq k hk=>List.getElem?_append_left (by have:=H.lt hq;omega)
noncomputable def InTab (T:Tab) (i:Nat):Prop:=∃ q∈T,∃ k,k < 3∧i=q.2 + k
theorem Tree.set (H:Tree st T val fr) {i:Nat} {o:MObj} (h:¬ InTab T i):Tree (st.set i o) T val fr :=
 H.same fun q hq k hk=>List.getElem?_set_ne fun e=>h ⟨q,hq,k,hk,e⟩
theorem vAt_none {l:List (Str × V)} {x:Str} (h:∀ q∈l,q.1≠x):vAt l x=none:=by
 unfold vAt
 rw [List.find?_eq_none.mpr (fun q hq=>by simpa using h q hq)]
 rfl
theorem Tree.kid_none (_H:Tree st T val fr) {P:List Str} {x:Str} (h:∀ q∈T,q.1≠P++[x]):vAt (kids T P) x=none:=by
 refine vAt_none fun q hq e=>?_
 refine xEA (List.mem_filterMap.mp hq) fun t ht h2=>?_
 refine xEA (Option.map_eq_some_iff.mp h2) fun y hy q'1=>?_;subst q'1
 have:=kidOf_some hy
 exact h t ht (by rw [this];simpa using e)
theorem Tree.kid_some (H:Tree st T val fr) {P:List Str} {x:Str} {b:Nat} (h:(P++[x],b)∈T):vAt (kids T P) x=some (.ref (b + 2)):=by
 have hm:(x,V.ref (b + 2))∈kids T P:=List.mem_filterMap.mpr ⟨_,h,by rw [kidOf_snoc];rfl⟩
 unfold vAt
 cases hf:(kids T P).find? fun p=>p.1=x with
 | none=>exact absurd (List.find?_eq_none.mp hf _ hm) (by simp)
 | some q =>
  refine xEA (List.mem_filterMap.mp (List.mem_of_find?_eq_some hf)) fun t ht h2=>?_
  refine xEA (Option.map_eq_some_iff.mp h2) fun y hy q'1=>?_;subst q'1
  have e:=List.find?_some hf
  have ey:y=x:=by simpa using e
  subst ey
  have:=H.uniq ht h (kidOf_some hy)
  rw [this];rfl
theorem Tree.kids_len (_H:Tree st T val fr) (P:List Str):(kids T P).length≤T.length:=List.length_filterMap_le ..
end Mine
namespace Mine
open PySem PySem.W PySem.Calls PyProof.Rows PySem.Builtin PySem.Builtin.Str
variable {w : World} {ad : Adr} {r : Nat} {st st₁ st₂ st₃ : St} {env : Env} {loc loc₁ loc₂ loc₃ : Loc}
variable {T : Tab} {val : List Str → List Str} {fr : List Str → Option Nat}
theorem snoc_ne {P:List Str} {x:Str}:P++[x]≠P:=fun h=>by
 have:=congrArg List.length h
 simp at this
theorem kidOf_self (P:List Str) (x:Str):kidOf (P++[x]) (P++[x])=none:=by
 unfold kidOf
 rw [if_neg]
 rw [List.dropLast_concat]
 exact fun h=>snoc_ne h.symm
theorem kidOf_ne {P Q:List Str} {x:Str} (h:Q≠P):kidOf Q (P++[x])=none:=by
 unfold kidOf
 rw [if_neg]
 rw [List.dropLast_concat]
 exact fun e=>h e.symm
theorem kids_snoc (T:Tab) (P:List Str) (x:Str) (n:Nat):kids (T++[(P++[x],n)]) P=kids T P++[(x,.ref (n + 2))]:=by
 simp [kids,List.filterMap_append,kidOf_snoc]
theorem kids_other (T:Tab) {P Q:List Str} {x:Str} {n:Nat} (h:Q≠P):kids (T++[(P++[x],n)]) Q=kids T Q:=by
 simp [kids,List.filterMap_append,kidOf_ne h]
theorem newNode_get (st:St) {i:Nat} (h:i < st.length):(newNode st)[i]?=st[i]?:=by
 unfold newNode
 rw [List.append_assoc,List.append_assoc,List.getElem?_append_left h]
theorem newNode_len (st:St):(newNode st).length=st.length + 3:=by simp [newNode]
noncomputable def addSt (st:St) (T:Tab) (P:List Str) (b:Nat) (x:Str):St:=(newNode st).set (b + 1) (.fdd true (onV V.str (kids T P++[(x,.ref (st.length + 2))])) none)
theorem addSt_len (st:St) (T:Tab) (P:List Str) (b:Nat) (x:Str):(addSt st T P b x).length=st.length + 3:=by unfold addSt;rw [List.length_set,newNode_len]
theorem addSt_get {st:St} {T:Tab} {P:List Str} {b:Nat} {x:Str} {i:Nat} (h:i < st.length) (hn:i≠b + 1):(addSt st T P b x)[i]?=st[i]?:=by
 unfold addSt
 rw [List.getElem?_set_ne (Ne.symm hn),newNode_get st h]
theorem Tree.add (H:Tree st T val fr) {P:List Str} {b:Nat} {x:Str} (hm:(P,b)∈T) (hx:∀ q∈T,q.1≠P++[x]) (hf:fr P=none) (hv:val (P++[x])=[]) (hf':fr (P++[x])=none) :
  Tree (addSt st T P b x) (T++[(P++[x],st.length)]) val fr:=by
 have lb:=H.lt hm
 have nx:∀ q∈T,kidOf (P++[x]) q.1=none:=fun q hq=>by
  cases hk:kidOf (P++[x]) q.1 with
  | none=>rfl
  | some y =>
   have e:=kidOf_some hk
   refine xEA (H.closed q hq (by rw [e];simp)) fun p hp ep=>?_
   exact absurd (ep.trans (by rw [e];simp)) (hx p hp)
 have k0:kids (T++[(P++[x],st.length)]) (P++[x])=[]:=by
  unfold kids
  rw [List.filterMap_append,List.filterMap_eq_nil_iff.mpr (fun q hq=>by rw [nx q hq];rfl)]
  simp [kidOf_self]
 refine ⟨fun q hq=>?_,?_,fun u hu v hv huv=>?_,fun q hq hne=>?_⟩
 ·rcases List.mem_append.mp hq with hq | hq
  ·have lq:=H.lt hq
   refine xAA (H.at_ q hq) fun a1 a2 a3=>?_
   by_cases hqP:q=(P,b)
   ·subst hqP
    refine ⟨(addSt_get (by omega) (by omega)).trans a1,?_,(addSt_get (by omega) (by omega)).trans a3⟩
    rw [kids_snoc,hf]
    unfold addSt
    rw [List.getElem?_set_self (by rw [newNode_len];show b + 1 < _;omega)]
   ·have hPne:q.1≠P:=fun e=>hqP (H.uniq hq hm e)
    have ap:=H.apart q hq _ hm hqP
    dsimp only at ap
    refine ⟨(addSt_get (by omega) (by omega)).trans a1,?_,(addSt_get (by omega) (by omega)).trans a3⟩
    rw [kids_other T hPne]
    exact (addSt_get (by exact Nat.lt_of_succ_lt ‹_›) (by omega)).trans a2
  ·rw [List.mem_singleton.mp hq]
   dsimp only
   rw [k0,hv,hf']
   have g:∀ k,k < 3→(addSt st T P b x)[st.length + k]?=(newNode st)[st.length + k]?:=fun k _=>by
    unfold addSt
    rw [List.getElem?_set_ne (by omega)]
   refine ⟨(g 0 (by decide)).trans ?_,(g 1 (by decide)).trans ?_,(g 2 (by decide)).trans ?_⟩ <;> simp [newNode,strsO,onV]
 ·rw [List.map_append,List.nodup_append]
  refine ⟨H.nodup,by simp,fun u hu v hv=>?_⟩
  refine xEA (List.mem_map.mp hu) fun q hq q'1=>?_;subst q'1
  simp at hv
  rw [hv];exact hx q hq
 ·rcases List.mem_append.mp hu with hu | hu <;> rcases List.mem_append.mp hv with hv | hv
  ·exact H.apart u hu v hv huv
  ·rw [List.mem_singleton.mp hv];have:=H.lt hu;dsimp only;omega
  ·rw [List.mem_singleton.mp hu];have:=H.lt hv;dsimp only;omega
  ·rw [List.mem_singleton.mp hu,List.mem_singleton.mp hv] at huv;exact absurd rfl huv
 ·rcases List.mem_append.mp hq with hq | hq
  ·refine xEA (H.closed q hq hne) fun p hp e=>?_
   exact ⟨p,List.mem_append_left _ hp,e⟩
  ·rw [List.mem_singleton.mp hq]
   exact ⟨_,List.mem_append_left _ hm,by simp⟩
noncomputable def addH:List (List Str)→List Str→List Str→List (List Str)
 | H,_,[]=>H
 | H,P,x :: xs=>addH (if P++[x]∈H then H else H++[P++[x]]) (P++[x]) xs
noncomputable abbrev downEnv (pm cd:Value) (L a:Addr):Env:=frameEnv 30 "_law_down" pm cd L a
noncomputable abbrev downLoc (b n:Nat):Loc:=[(("node":Str),V.ref b),(("names":Str),.ref n)]
structure DownKeeps (st:St) (T:Tab) (st':St) (T':Tab):Prop where
 len:st.length≤st'.length
 keep:∀ i,i < st.length→(∀ q∈T,i≠q.2 + 1)→st'[i]?=st[i]?
 new:∀ q∈T',q∈T∨st.length≤q.2
 old:∀ q∈T,q∈T'
theorem DownKeeps.refl:DownKeeps st T st T:=⟨Nat.le_refl _,fun _ _ _=>rfl,fun _ h=>.inl h,fun _ h=>h⟩
theorem DownKeeps.trans {st' st'':St} {T' T'':Tab} (A:DownKeeps st T st' T') (B:DownKeeps st' T' st'' T''):DownKeeps st T st'' T'' :=
 ⟨Nat.le_trans A.len B.len,fun i h1 h2=>(B.keep i (Nat.lt_of_lt_of_le h1 A.len) fun q hq=>by
  rcases A.new q hq with h | h
  ·exact h2 q h
  ·omega).trans (A.keep i h1 h2),fun q hq=>by
  rcases B.new q hq with h | h
  ·exact A.new q h
  ·exact .inr (Nat.le_trans A.len h),fun q hq=>B.old q (A.old q hq)⟩
theorem DownKeeps.add {P:List Str} {b:Nat} {x:Str} (hm:(P,b)∈T):DownKeeps st T (addSt st T P b x) (T++[(P++[x],st.length)]) :=
 ⟨by rw [addSt_len];exact Nat.le_add_right _ _,fun i h1 h2=>addSt_get h1 (h2 _ hm),fun q hq=>by
  rcases List.mem_append.mp hq with h | h
  ·exact .inl h
  ·rw [List.mem_singleton.mp h];exact .inr (Nat.le_refl _),fun q hq=>List.mem_append_left _ hq⟩
theorem down_step {a:Addr} {pm cd:Value} {L:Addr} {b b' n:Nat} {x:Str} (G:Globs w ad) {st':St} (hp:st[b + 2]?=some (.pair (.ref b) (.ref (b + 1))))
  (hs:∀ value slice,(∀ (a:Addr) (y:Value),subscripted slice false (.ref a) y=operate [.ref a,y] (getItem (.ref a) y))→SubOk w ad (r + 10) st value slice (.ref (b + 1)) (.str x) (.ref b') st') :
  TS w ad (r + 10) (downEnv pm cd L a) ([(("name":Str),V.str x)]++downLoc (b + 2) n) st (forB (sIn 30 0)) none (downLoc b' n) st' :=
 TS.sub (TS1.cons (TS1.assign (TE.sub (TE.part (r:=r + 8) (a:=.ref b) (b:=.ref (b + 1)) true G.plain (TE.name rfl (.inl rfl)) hp rfl (nl rfl)) (TE.name rfl (.inl rfl)) (hs _ _ (by intro _ _;rfl))) (.inl rfl) (nc rfl)) TS.nil) (sub_mono (sub_skip (sub_skip (sub_mono sub_nil) rfl) rfl))
theorem down_loop {a:Addr} {n:Nat} {nm:List Str} (G:Globs w ad) (hfr:∀ Q,fr Q=none):∀ (xs:List Str) (P:List Str) (b:Nat) (st:St) (T:Tab),Tree st T val fr→(P,b)∈T→(∀ Q,(∀ q∈T,q.1≠Q)→val Q=[])→T.length + xs.length≤2 ^ 20→st[n]?=some (strsO nm)→(∀ q∈T,n≠q.2 + 1) →
  ∃ st' T' b',(∀ (pm cd:Value) (L:Addr),LoopR (Turn w ad (r + 10) (downEnv pm cd L a) (forT (sIn 30 0)) (forB (sIn 30 0))) (fun s=>s[n]?=some (strsO nm)) (xs.map V.str) (downLoc (b + 2) n) st none (downLoc (b' + 2) n) st') ∧
   Tree st' T' val fr∧(P++xs,b')∈T'∧T'.map (·.1)=addH (T.map (·.1)) P xs∧DownKeeps st T st' T'∧T'.length≤T.length + xs.length:=by
 intro xs
 induction xs with
 | nil =>
  intro P b st T H hm _ _ hn _
  exact ⟨st,T,b,fun _ _ _=>.nil hn,H,by simpa using hm,rfl,.refl,by simp⟩
 | cons x xs ih =>
  intro P b st T H hm hval hz hn hnT
  simp only [List.length_cons] at hz
  refine xAA (H.at_ _ hm) fun h0 h1 h2=>?_
  dsimp only at h0 h1 h2
  rw [hfr] at h1
  by_cases hx:P++[x]∈T.map (·.1)
  ·refine xEA (List.mem_map.mp hx) fun z'1 hq e=>?_;obtain ⟨Q,b2⟩:=z'1
   dsimp only at e
   subst e
   refine xEEEAAAAA (ih (P++[x]) b2 st T H hq hval (by exact Nat.le_of_lt ‹_›) hn hnT) fun st' T' b' K H' hm' hmap D hl=>?_
   refine ⟨st',T',b',fun pm cd L=>?_,H',by simpa using hm',?_,D,by simp only [List.length_cons];exact Nat.le_succ_of_le ‹_›⟩
   ·exact .cons hn ⟨_,TT.name (.inl rfl) (nc rfl),down_step G h2 fun value slice hsub=>SubOk.hit kiStr h1 (H.kid_some hq) hsub⟩ (K pm cd L)
   ·rw [hmap]
    show _=addH (if P++[x]∈T.map (·.1) then T.map (·.1) else _) (P++[x]) xs
    rw [if_pos hx]
  ·have hx':∀ q∈T,q.1≠P++[x]:=fun q hq e=>hx (List.mem_map.mpr ⟨q,hq,e⟩)
   have H2:=H.add hm hx' (hfr P) (hval _ hx') (hfr _)
   have lb:=H.lt hm
   dsimp only at lb
   have nlt:n < st.length:=(List.getElem?_eq_some_iff.mp hn).1
   refine xEEEAAAAA (ih (P++[x]) st.length (addSt st T P b x) (T++[(P++[x],st.length)]) H2 (by exact snocMem) (fun Q hQ=>hval Q fun q hq=>hQ q (List.mem_append_left _ hq)) (by simp;omega)
    ((addSt_get nlt (hnT _ hm)).trans hn) (fun q hq=>by
     rcases List.mem_append.mp hq with h | h
     ·exact hnT q h
     ·rw [List.mem_singleton.mp h];dsimp only;exact neLS ‹_›)) fun st' T' b' K H' hm' hmap D hl=>?_
   refine ⟨st',T',b',fun pm cd L=>?_,H',by simpa using hm',?_,(DownKeeps.add hm).trans D,by simp only [List.length_append,List.length_cons,List.length_nil] at hl ⊢;omega⟩
   ·refine .cons hn ⟨_,TT.name (.inl rfl) (nc rfl),down_step (b':=st.length + 2) (st':=addSt st T P b x) G h2 fun value slice hsub=>?_⟩ (K pm cd L)
    have kl:=H.kids_len P
    exact SubOk.miss (r:=r + 5) kiStr G.hide h1 (H.kid_none hx') (TFac.node (r:=r) G.toNames) ((newNode_get st (by exact Nat.lt_of_succ_lt ‹_›)).trans h1) (by omega) hsub
   ·rw [hmap]
    show _=addH (if P++[x]∈T.map (·.1) then T.map (·.1) else _) (P++[x]) xs
    rw [if_neg hx]
    simp
theorem down_def {a:Addr} {b b' n:Nat} {nm:List Str} {st':St} (hf:FnAt ad "_law_down" 30 a) (hn:st[n]?=some (strsO nm))
  (K:∀ (pm cd:Value) (L:Addr),LoopR (Turn w ad r (downEnv pm cd L a) (forT (sIn 30 0)) (forB (sIn 30 0))) (fun s=>s[n]?=some (strsO nm)) (nm.map V.str) (downLoc b n) st none (downLoc b' n) st') :
  TC w ad (r + 1) a st [.ref b,.ref n] (.ref b') st':=by
 refine TC.def (ps:=["node","names"]) hf (fun pm cd=>len2 fun _ _=>rfl) (by decide) rfl (by decide) (by decide) ?m
 intro pm cd L
 refine TR.cons (t:=sIn 30 0) (TS1.for (vals:=nm.map V.str) (TX.of (TE.name rfl (.inl rfl)) (TI.list hn)) (K pm cd L) (.inl ⟨rfl,_,_,rfl⟩)) ?_
 exact TR.ret (TE.name rfl (.inl rfl))
theorem TC.down {a:Addr} {b n:Nat} {nm:List Str} (G:Globs w ad) (hf:FnAt ad "_law_down" 30 a) (H:Tree st T val fr) (hfr:∀ Q,fr Q=none) (hm:([],b)∈T) (hval:∀ Q,(∀ q∈T,q.1≠Q)→val Q=[]) (hz:T.length + nm.length≤2 ^ 20) (hn:st[n]?=some (strsO nm)) (hnT:∀ q∈T,n≠q.2 + 1) :
  ∃ st' T' b',TC w ad (r + 11) a st [.ref (b + 2),.ref n] (.ref (b' + 2)) st'∧Tree st' T' val fr∧(nm,b')∈T'∧T'.map (·.1)=addH (T.map (·.1)) [] nm∧DownKeeps st T st' T'∧T'.length≤T.length + nm.length:=by
 refine xEEEAAAAA (down_loop (r:=r) (a:=a) (w:=w) (ad:=ad) (n:=n) (nm:=nm) G hfr nm [] b st T H hm hval hz hn hnT) fun st' T' b' K H' hm' hmap D hl=>?_
 exact ⟨st',T',b',down_def hf hn K,H',hm',hmap,D,hl⟩
theorem Tree.pre (H:Tree st T val fr):∀ (xs:List Str) {P:List Str},P++xs∈T.map (·.1)→P∈T.map (·.1):=by
 intro xs
 induction xs with
 | nil=>intro P h;simpa using h
 | cons x xs ih =>
  intro P h
  have h1:P++[x]∈T.map (·.1):=ih (P:=P++[x]) (by simpa using h)
  refine xEA (List.mem_map.mp h1) fun q hq e=>?_
  refine xEA (H.closed q hq (by rw [e];simp)) fun p hp e2=>?_
  refine List.mem_map.mpr ⟨p,hp,?_⟩
  rw [e2,e];simp
theorem LoopR.append {turn:V→Loc→St→Option V→Loc→St→Prop} {Ok:St→Prop} {vs ws:List V} {fl:Option V} (A:LoopR turn Ok vs loc st none loc₁ st₁) (B:LoopR turn Ok ws loc₁ st₁ fl loc₂ st₂):LoopR turn Ok (vs++ws) loc st fl loc₂ st₂:=by
 generalize hf:(none:Option V)=f at A
 induction A with
 | nil _=>exact B
 | cons o t _ ih=>exact .cons o t (ih B hf)
 | stop _ _=>exact nsome hf
theorem hit_loop {a:Addr} {n:Nat} {nm:List Str} (G:Globs w ad) (H:Tree st T val fr) (hn:st[n]?=some (strsO nm)):∀ (xs:List Str) (P:List Str) (b:Nat),(P,b)∈T→P++xs∈T.map (·.1) →
  ∃ b',(∀ (pm cd:Value) (L:Addr),LoopR (Turn w ad (r + 10) (downEnv pm cd L a) (forT (sIn 30 0)) (forB (sIn 30 0))) (fun s=>s[n]?=some (strsO nm)) (xs.map V.str) (downLoc (b + 2) n) st none (downLoc (b' + 2) n) st)∧(P++xs,b')∈T:=by
 intro xs
 induction xs with
 | nil=>intro P b hm _;exact ⟨b,fun _ _ _=>.nil hn,by simpa using hm⟩
 | cons x xs ih =>
  intro P b hm hx
  have hx1:P++[x]∈T.map (·.1):=H.pre xs (by simpa using hx)
  refine xEA (List.mem_map.mp hx1) fun z'1 hq e=>?_;obtain ⟨Q,b2⟩:=z'1
  dsimp only at e
  subst e
  refine xAA (H.at_ _ hm) fun h0 h1 h2=>?_
  refine xEA (ih (P++[x]) b2 hq (by simpa using hx)) fun b' K hm'=>?_
  exact ⟨b',fun pm cd L=>.cons hn ⟨_,TT.name (.inl rfl) (nc rfl),down_step G h2 fun value slice hsub=>SubOk.hit kiStr h1 (H.kid_some hq) hsub⟩ (K pm cd L),by simpa using hm'⟩
theorem TC.lostDown {a:Addr} {b n:Nat} {P:List Str} {x:Str} (G:Globs w ad) (hf:FnAt ad "_law_down" 30 a) (H:Tree st T val fr) (hfr:∀ q∈T,∃ cl,fr q.1=some cl∧st[cl]?=some (.cel (q.2 + 1))) (hm:([],b)∈T) (hP:P∈T.map (·.1)) (hx:∀ q∈T,q.1≠P++[x]) (hn:st[n]?=some (strsO (P++[x]))) :
  TC w ad (r + 11) a st [.ref (b + 2),.ref n] (.ref (st.length + 2)) (newNode st):=by
 refine xEA (hit_loop (r:=r) (a:=a) (w:=w) (ad:=ad) (n:=n) (nm:=P++[x]) G H hn P [] b hm (by assumption)) fun b' K hm'=>?_
 rw [List.nil_append] at hm'
 refine xAA (H.at_ _ hm') fun h0 h1 h2=>?_
 refine xEA (hfr _ hm') fun cl e1 e2=>?_
 dsimp only at e1 e2 h1 h2
 rw [e1] at h1
 have nlt:n < st.length:=(List.getElem?_eq_some_iff.mp hn).1
 refine down_def hf hn fun pm cd L=>?_
 rw [List.map_append]
 refine (K pm cd L).append (.cons hn ⟨_,TT.name (.inl rfl) (nc rfl),down_step (b':=st.length + 2) G h2 fun value slice hsub=>SubOk.missF (r:=r + 5) kiStr G.hide h1 e2 (H.kid_none hx) (TFac.node (r:=r) G.toNames) hsub⟩ (.nil ?_))
 exact (newNode_get st nlt).trans hn
noncomputable def kidNames (H:List (List Str)) (P:List Str):List Str:=H.filterMap (kidOf P)
theorem kids_names (T:Tab) (P:List Str):(kids T P).map (·.1)=kidNames (T.map (·.1)) P:=by
 unfold kids kidNames
 induction T with
 | nil=>rfl
 | cons q T ih =>
  rw [List.map_cons,List.filterMap_cons,List.filterMap_cons]
  cases kidOf P q.1 with
  | none=>assumption
  | some x=>simpa using ih
noncomputable def toldF (H:List (List Str)) (val:List Str→List Str):Nat→List Str→List (List Str × Str)
 | 0,P=>(val P).map fun v=>(P,v)
 | f + 1,P=>((val P).map fun v=>(P,v))++(kidNames H P).flatMap fun x=>toldF H val f (P++[x])
noncomputable def tB (m k:Nat):Nat→Nat
 | 0=>m
 | f + 1=>m + k * tB m k f
theorem told_len {H:List (List Str)} {m:Nat} (hv:∀ P,(val P).length≤m):∀ (f:Nat) (P:List Str),(toldF H val f P).length≤tB m H.length f
 | 0,P=>by simpa [toldF,tB] using hv P
 | f + 1,P=>by
  have h1:=hv P
  have h2:=flat_len (k:=fun x=>toldF H val f (P++[x])) (b:=tB m H.length f) (kidNames H P) fun x _=>told_len hv f (P++[x])
  have h3:(kidNames H P).length≤H.length:=List.length_filterMap_le ..
  have h4:=Nat.mul_le_mul_right (tB m H.length f) h3
  unfold toldF tB
  rw [List.length_append,List.length_map]
  omega
noncomputable abbrev toldEnv (pm cd:Value) (L a:Addr):Env:=frameEnv 32 "_law_told" pm cd L a
noncomputable abbrev toldLoc (b n D:Nat):Loc:=(("told":Str),V.ref D) :: [(("node":Str),.ref (b + 2)),(("names":Str),.ref n)]
noncomputable def ToldCall (w:World) (ad:Adr) (R:Nat) (a:Addr) (F:List (List Str × Str)) (st:St) (b n:Nat):Prop :=
 ∃ g d out,TC w ad R a st [.ref (b + 2),.ref n] (.ref d) (st++g)∧(st++g)[d]?=some (.list out)∧All2 (PairIn (st++g) n st.length) out F
theorem told_loop {a:Addr} {R b n:Nat} {P:List Str} {F:List Str→List (List Str × Str)} {ks:List (Str × V)} {es:List (V × V)} (hf:FnAt ad "_law_told" 32 a) (hn:st[n]?=some (strsO P)) (hP:P.length < 2 ^ 20) (hes:∃ fr,st[b + 1]?=some (.fdd true es fr))
  (hc:∀ x v,(x,v)∈ks→∃ c,v=.ref (c + 2)∧∀ Y n',(st++Y)[n']?=some (strsO (P++[x]))→ToldCall w ad R a (F (P++[x])) (st++Y) c n') :
  ∀ (xs:List (Str × V)),(∀ q∈xs,q∈ks)→∀ (cur:List V) (G:St),cur.length + (xs.flatMap fun q=>F (P++[q.1])).length < 2 ^ 24 →
  ∃ out X,(∀ (pm cd:Value) (L:Addr),LoopR (Turn w ad R (toldEnv pm cd L a) (forT (sIn 32 1)) (forB (sIn 32 1))) (fun st'=>∃ fr,st'[b + 1]?=some (.fdd true es fr)) (itemsOf (onV V.str xs)) (toldLoc b n st.length) (st++MObj.list cur :: G) none (toldLoc b n st.length) (st++MObj.list (cur++out) :: (G++X))) ∧
   All2 (PairIn (st++MObj.list (cur++out) :: (G++X)) n st.length) out (xs.flatMap fun q=>F (P++[q.1])):=by
 have nlt:n < st.length:=(List.getElem?_eq_some_iff.mp hn).1
 have okS:∀ g:St,∃ fr,(st++g)[b + 1]?=some (.fdd true es fr):=fun g=>let ⟨fr,h⟩:=hes;⟨fr,get_left _ h⟩
 intro xs
 induction xs with
 | nil =>
  intro _ cur G _
  refine ⟨[],[],fun pm cd L=>?_,.nil⟩
  rw [List.append_nil,List.append_nil]
  exact .nil (okS _)
 | cons q xs ih =>
  obtain ⟨x,v⟩:=q
  intro hx cur G hz
  let S:St:=st++MObj.list cur :: G
  let S2:St:=(S++[MObj.list [V.str x]])++[MObj.list (P.map V.str++[V.str x])]
  have eS2:S2=st++(MObj.list cur :: (G++[strsO [x],strsO (P++[x])])):=by
   show ((st++MObj.list cur :: G)++[MObj.list [V.str x]])++[MObj.list (P.map V.str++[V.str x])]=_
   simp [strsO]
  have hn2:S2[S.length + 1]?=some (strsO (P++[x])):=by
   show ((S++[MObj.list [V.str x]])++[MObj.list (P.map V.str++[V.str x])])[S.length + 1]?=_
   rw [List.getElem?_append_right (by exact leS)]
   simp [strsO]
  refine xEA (hc x v (hx _ (.head _))) fun c q'1 hc'=>?_;subst q'1
  have CC:=hc' (MObj.list cur :: (G++[strsO [x],strsO (P++[x])])) (S.length + 1) (by rw [← eS2];exact hn2)
  rw [← eS2] at CC
  refine xEEEAA CC fun g2 d out1 C hd hout=>?_
  have eS3:S2++g2=st++MObj.list cur :: (G++([strsO [x],strsO (P++[x])]++g2)):=by rw [eS2];simp
  rw [eS3] at C hd hout
  have zc:out1.length=(F (P++[x])).length:=hout.length
  rw [List.flatMap_cons,List.length_append] at hz
  refine xEEA (ih (fun y hy=>hx y (.tail _ hy)) (cur++out1) (G++([strsO [x],strsO (P++[x])]++g2)) (by rw [List.length_append];dsimp only at hz;omega)) fun out2 X2 K hout2=>?_
  have e1:st++MObj.list (cur++(out1++out2)) :: (G++(([strsO [x],strsO (P++[x])]++g2)++X2))=st++MObj.list ((cur++out1)++out2) :: ((G++([strsO [x],strsO (P++[x])]++g2))++X2):=by simp
  refine ⟨out1++out2,([strsO [x],strsO (P++[x])]++g2)++X2,fun pm cd L=>?_,?_⟩
  ·rw [e1]
   refine .cons (okS _) ⟨_,TT.tup2 (TT.name (.inl rfl) (nc rfl)) (TT.name (.inl rfl) (nc rfl)),?_⟩ (K pm cd L)
   have hnS:(S++[MObj.list [V.str x]])[n]?=some (.list (P.map V.str)):=get_left _ (get_left _ hn)
   refine TS.sub (TS1.cons (TS1.extend (st0:=st) (l:=cur) (l':=out1) (d:=d) (TE.name rfl (.inl rfl)) (TE.callG hf rfl (TL.cons (ns rfl) (TE.name rfl (.inl rfl)) (TL.cons (ns rfl) (TE.bin (TE.name rfl (.inr (.inl rfl))) (TE.list (vs:=[V.str x]) (TL.cons (ns rfl) (TE.name rfl (.inl rfl)) TL.nil) (by show 1≤sizeLine;decide)) (TO2.lcat (l':=[V.str x]) hnS (by exact at0) ?c)) TL.nil)) ?call) (by exact at0) hd (by dsimp only at hz;omega) (ns rfl)) TS.nil) (sub_skip (sub_skip (fun _ _ h=>h) rfl) rfl)
   case c=>simp only [List.length_map,List.length_cons,List.length_nil];exact Nat.lt_of_le_of_lt ‹_› (by decide)
   case call =>
    have:(S++[MObj.list [V.str x]]).length=S.length + 1:=by exact lenS
    rw [this]
    exact C
  ·rw [List.flatMap_cons,e1]
   refine .append (hout.imp fun v dd h=>?_) hout2
   have sl:st.length < S.length:=by show st.length < (st++MObj.list cur :: G).length;simp
   have sl2:S.length≤S2.length:=by show S.length≤((S++[MObj.list [V.str x]])++[MObj.list (P.map V.str++[V.str x])]).length;simp
   have h':PairIn (st++MObj.list cur :: (G++([strsO [x],strsO (P++[x])]++g2))) n st.length v dd:=by
    refine xEAA h fun k e h q=>?_
    exact ⟨k,e,h,.inr (by omega)⟩
   have h3:=(PairIn.mid (b:=MObj.list ((cur++out1)++out2)) nlt h').grow X2
   rw [List.append_assoc,List.cons_append] at h3
   exact h3
theorem CompR.each {α:Type} {turn:V→St→Option V→St→Prop} {Ok:St→Prop} (ho:Ok st) {f u:α→V}:∀ {l:List α},(∀ i∈l,turn (f i) st (some (u i)) st)→CompR turn Ok (l.map f) st (l.map u) st
 | [],_=>.nil ho
 | i :: _,h=>.take ho (h i (.head _)) (CompR.each ho fun j hj=>h j (.tail _ hj))
theorem told_call {a:Addr} {R b n:Nat} {P:List Str} {F:List Str→List (List Str × Str)} (G:Globs w ad) (hf:FnAt ad "_law_told" 32 a) (H:Tree st T val fr) (hm:(P,b)∈T) (hn:st[n]?=some (strsO P)) (hP:P.length < 2 ^ 20)
  (hv:(val P).length < 2 ^ 20)
  (hc:∀ x v,(x,v)∈kids T P→∃ c,v=.ref (c + 2)∧∀ Y n',(st++Y)[n']?=some (strsO (P++[x]))→ToldCall w ad (R + 4) a (F (P++[x])) (st++Y) c n') (hb:(((val P).map fun v=>(P,v))++(kidNames (T.map (·.1)) P).flatMap fun x=>F (P++[x])).length < 2 ^ 24) :
  ToldCall w ad (R + 5) a (((val P).map fun v=>(P,v))++(kidNames (T.map (·.1)) P).flatMap fun x=>F (P++[x])) st b n:=by
 have nlt:n < st.length:=(List.getElem?_eq_some_iff.mp hn).1
 refine xAA (H.at_ _ hm) fun h0 h1 h2=>?_
 dsimp only at h0 h1 h2
 have ek:(kidNames (T.map (·.1)) P).flatMap (fun x=>F (P++[x]))=(kids T P).flatMap fun q=>F (P++[q.1]):=by
  rw [← kids_names,List.flatMap_map]
 rw [ek] at hb ⊢
 rw [List.length_append,List.length_map] at hb
 refine xEEA (told_loop (R:=R + 4) hf hn hP ⟨_,h1⟩ hc (kids T P) (fun _ h=>h) ((val P).map fun v=>V.tup2 (.ref n) (.str v)) [] (by rw [List.length_map];exact hb)) fun out X K2 hout=>?_
 refine ⟨MObj.list (((val P).map fun v=>V.tup2 (.ref n) (.str v))++out) :: ([]++X),st.length,((val P).map fun v=>V.tup2 (.ref n) (.str v))++out,?_,by exact at0,?_⟩
 ·refine TC.def (ps:=["node","names"]) hf (fun pm cd=>len2 fun _ _=>rfl) (by decide) rfl (by decide) (by decide) ?m
  intro pm cd L
  refine TR.cons (t:=sIn 32 0) (loc₁:=toldLoc b n st.length) (st₁:=st++[MObj.list ((val P).map fun v=>V.tup2 (.ref n) (.str v))]) ?_ ?_
  ·refine TS1.assignComp (vals:=(val P).map V.str) (us:=(val P).map fun v=>V.tup2 (.ref n) (.str v)) (Ok:=fun st'=>st'[b]?=some (.list ((val P).map V.str))) (capt:=[(("names":Str),.ref n)]) [(("names":Str),L + 1)]
    (TX.of (TE.part (r:=R + 2) (a:=.ref b) (b:=.ref (b + 1)) false G.plain (TE.name rfl (.inl rfl)) h2 rfl (nl rfl)) (TI.list h0)) ?loop (.inl ⟨rfl,_,_,rfl⟩) rfl (by decide) rfl (by decide) ?cl ?clp ?capt ?sz (by intro _;rfl) rfl (.inl rfl) (nc rfl)
   case loop =>
    intro C
    refine CompR.each h0 fun v _=>⟨_,st,TT.name (.inl rfl) (nc rfl),?_,TF.nil,TE.tup2 (TL.cons (ns rfl) (TE.name rfl (.inr (.inl rfl))) (TL.cons (ns rfl) (TE.name rfl (.inl rfl)) TL.nil))⟩
    intro y u e
    cases List.mem_singleton.mp (mem_lookup e);rfl
   case cl =>
    intro p hp
    rw [List.mem_singleton.mp hp]
    exact .head _
   case clp=>exact .cons nofun .nil
   case capt =>
    intro y v ev
    cases List.mem_singleton.mp (mem_lookup ev)
    exact ⟨rfl,.inl rfl,rfl,fun q=>nomatch (show some NameKind.cell=some NameKind.local from q)⟩
   case sz =>
    rw [List.length_map]
    exact Nat.le_of_lt (Nat.lt_of_lt_of_le hv (by decide))
  ·have k2:=K2 pm cd L
   refine TR.cons (t:=sIn 32 1) (TS1.for (b:=false) (vals:=itemsOf (onV V.str (kids T P))) (TX.items (TE.part (r:=R + 2) (a:=.ref b) (b:=.ref (b + 1)) true G.plain (TE.name rfl (.inl rfl)) (get_left _ h2) rfl (nl rfl)) (get_left _ h1)) k2 (.inr ⟨_,_,_,rfl⟩)) ?_
   exact TR.ret (TE.name rfl (.inl rfl))
 ·refine .append ?_ hout
  have:∀ l:List Str,All2 (PairIn (st++MObj.list (((val P).map fun v=>V.tup2 (.ref n) (.str v))++out) :: ([]++X)) n st.length) (l.map fun v=>V.tup2 (.ref n) (.str v)) (l.map fun v=>(P,v)):=by
   intro l
   induction l with
   | nil=>exact .nil
   | cons v l ih=>exact .cons ⟨n,rfl,get_left _ hn,.inl rfl⟩ ih
  exact this _
theorem TC.told {a:Addr} (G:Globs w ad) (hf:FnAt ad "_law_told" 32 a) {m:Nat} (hv:∀ P,(val P).length≤m) (hm20:m < 2 ^ 20):∀ (f:Nat) {st:St} {b n:Nat} {P:List Str},Tree st T val fr→(P,b)∈T→st[n]?=some (strsO P)→P.length + f < 2 ^ 20→(∀ q∈T,q.1.length≤P.length + f)→tB m T.length f < 2 ^ 24→(0 < T.length) →
  ToldCall w ad (r + 5 + f) a (toldF (T.map (·.1)) val f P) st b n:=by
 intro f
 induction f with
 | zero =>
  intro st b n P H hm hn hPl hlen hb _
  have e0:kids T P=[]:=by
   refine List.filterMap_eq_nil_iff.mpr fun q hq=>?_
   cases hk:kidOf P q.1 with
   | none=>rfl
   | some x =>
    have:=hlen q hq
    rw [kidOf_some hk] at this
    simp only [List.length_append,List.length_cons,List.length_nil] at this
    exact noLL ‹_› ‹_›
  have e1:kidNames (T.map (·.1)) P=[]:=by rw [← kids_names,e0];rfl
  have:=told_call (F:=fun _=>[]) (R:=r) G hf H hm hn (by omega) (Nat.lt_of_le_of_lt (hv P) hm20) (by rw [e0];nofun) (by
   rw [e1]
   have:=hv P
   simp only [List.flatMap_nil,List.append_nil,List.length_map]
   exact Nat.lt_of_le_of_lt ‹_› ‹_›)
  rw [e1] at this
  simpa [toldF] using this
 | succ f ih =>
  intro st b n P H hm hn hPl hlen hb hT
  have hb':tB m T.length f < 2 ^ 24:=by
   simp only [tB] at hb
   have:tB m T.length f≤T.length * tB m T.length f:=Nat.le_mul_of_pos_left _ hT
   omega
  have key:=told_call (F:=toldF (T.map (·.1)) val f) (R:=r + 1 + f) G hf H hm hn (by omega) (Nat.lt_of_le_of_lt (hv P) hm20) (fun x v hx=>by
   refine xEA (List.mem_filterMap.mp hx) fun z'1 ht h2=>?_;obtain ⟨Q,c⟩:=z'1
   refine xEA (Option.map_eq_some_iff.mp h2) fun y hy e=>?_
   cases e
   have hQ:=kidOf_some hy
   dsimp only at hQ
   subst hQ
   refine ⟨c,rfl,fun Y n' hn'=>?_⟩
   have:=ih (H.grow Y) ht hn' (by simp;omega) (fun q hq=>by have:=hlen q hq;simp;omega) hb' hT
   rw [show r + 1 + f + 4=r + 5 + f by omega]
   exact this) (by
   have:=told_len (val:=val) (H:=T.map (·.1)) hv (f + 1) P
   rw [List.length_map] at this
   simp only [toldF] at this
   exact Nat.lt_of_le_of_lt this hb)
  rw [show r + 1 + f + 5=r + 5 + (f + 1) by omega] at key
  exact key
theorem TS1.extendAt {o e:Expr} {apos pos pos':Pos} {l l':List V} {D d:Nat} (To:TE w ad r env loc st o (.ref D) st₁) (Te:TE w ad r env loc st₁ e (.ref d) st₂) (hst:st₁[D]?=some (.list l)) (hD:st₂[D]?=some (.list l)) (hd:st₂[d]?=some (.list l')) (hl:l.length + l'.length < 2 ^ 24) (hns:∀ x p,e≠.Starred x p)
  (hE:∃ pl,eval (.Call (.Attribute o ("extend":Str) apos) [e] [] pos) env=(do
   let ov ← eval o env
   standAt apos.atName
   let (f,first) ← holding [ov] (getMethod ov ("extend":Str) pl)
   callWith pos f first (backTo pos (starEach [e] env)) (backToKw pos (keywordEach [] env))):=by exact ⟨_,by with_unfolding_all rfl⟩)
  (he:starEach [e] env=(false,eval e env) :: starEach [] env:=by rfl)
  (hi:interactive env=false:=by rfl) (hs:swapsWith (.Call (.Attribute o ("extend":Str) apos) [e] [] pos) none pos'.line env=pure false:=by rfl) :
  TS1 w ad r env loc st (.Expr (.Call (.Attribute o ("extend":Str) apos) [e] [] pos) pos') none loc (st₂.set D (.list (l++l'))) :=
 TS1.expr (TE.meth To (TM.list hst F.slot_list_extend F.type_list_extend) Keeps1.builtin (TL.cons hns Te TL.nil) (TO.extend hD hd hl) hE he) hi hs
theorem Tree.refreeze {st':St} {fr':List Str→Option Nat} (H:Tree st T val fr) (h:∀ q∈T,st'[q.2]?=st[q.2]?∧st'[q.2 + 1]?=some (.fdd true (onV V.str (kids T q.1)) (fr' q.1))∧st'[q.2 + 2]?=st[q.2 + 2]?):Tree st' T val fr' :=
 ⟨fun q hq=>by
  refine xAA (H.at_ q hq) fun a b c=>?_
  refine xAA (h q hq) fun a' b' c'=>?_
  exact ⟨a'.trans a,b',c'.trans c⟩,H.nodup,H.apart,H.closed⟩
theorem pre_kid {P Q:List Str} {x:Str} (h:P++[x] <+: Q):P <+: Q:=(List.prefix_append P [x]).trans h
theorem pre_uniq {P Q:List Str} {x y:Str} (h:P++[x] <+: Q) (k:P++[y] <+: Q):x=y:=by
 refine xE h fun t q'1=>?_;try clear h;subst q'1
 refine xE k fun u e=>?_
 rw [List.append_assoc,List.append_assoc] at e
 have:=List.append_cancel_left e
 rw [List.singleton_append,List.singleton_append] at this
 exact (List.cons.inj this).1.symm
theorem pre_cases {P Q:List Str} (h:P <+: Q):Q=P∨∃ x,P++[x] <+: Q:=by
 refine xE h fun t q'1=>?_;try clear h;subst q'1
 cases t with
 | nil=>exact .inl (by simp)
 | cons x t=>exact .inr ⟨x,t,by exact List.append_assoc ..⟩
theorem Tree.kid_mem (H:Tree st T val fr) {P:List Str} {x:Str} {q:List Str × Nat} (hq:q∈T) (h:P++[x] <+: q.1):∃ v,(x,v)∈kids T P:=by
 refine xE h fun t e=>?_
 have:P++[x]∈T.map (·.1):=H.pre t (by rw [e];exact List.mem_map.mpr ⟨q,hq,rfl⟩)
 refine xEA (List.mem_map.mp this) fun q2 hq2 e2=>?_
 exact ⟨_,List.mem_filterMap.mpr ⟨q2,hq2,by rw [e2,kidOf_snoc];rfl⟩⟩
noncomputable def countF (H:List (List Str)):Nat→List Str→Nat
 | 0,_=>1
 | f + 1,P=>1 + ((kidNames H P).map fun x=>countF H f (P++[x])).sum
structure FrozeAt (st:St) (T:Tab) (val:List Str→List Str) (fr:List Str→Option Nat) (Z:List Str→Prop) (st':St) (fr':List Str→Option Nat):Prop where
 tree:Tree st' T val fr'
 froz:∀ q∈T,Z q.1→∃ cl,fr' q.1=some cl∧st'[cl]?=some (.cel (q.2 + 1))
 rest:∀ q∈T,¬ Z q.1→fr' q.1=fr q.1
 len:st.length≤st'.length
 keep:∀ i,i < st.length→(∀ q∈T,Z q.1→i≠q.2 + 1)→st'[i]?=st[i]?
noncomputable abbrev frEnv (pm cd:Value) (L a:Addr):Env:=frameEnv 33 "_law_frozen" pm cd L a
noncomputable abbrev frLoc (b D:Nat):Loc:=(("told":Str),V.ref D) :: [(("node":Str),.ref (b + 2))]
noncomputable def FrozenCall (w:World) (ad:Adr) (R:Nat) (a:Addr) (T:Tab) (val:List Str→List Str) (P:List Str) (b k:Nat):Prop :=
 ∀ (st:St) (fr:List Str→Option Nat),Tree st T val fr→(∀ q∈T,P <+: q.1→fr q.1=none) →
  ∃ st' fr' d,TC w ad R a st [.ref (b + 2)] (.ref d) st'∧st'[d]?=some (.list (List.replicate k .none))∧FrozeAt st T val fr (fun Q=>P <+: Q) st' fr'
theorem frozen_loop {a:Addr} {R b D:Nat} {P:List Str} {F:Str→Nat} {es:List (V × V)} (hf:FnAt ad "_law_frozen" 33 a) (hm:(P,b)∈T)
  (hes:es=onV V.str (kids T P)) (hc:∀ x v,(x,v)∈kids T P→∃ c,v=.ref (c + 2)∧FrozenCall w ad R a T val (P++[x]) c (F x)) :
  ∀ (xs:List (Str × V)),(∀ q∈xs,q∈kids T P)→(xs.map (·.1)).Nodup→∀ (st:St) (fr:List Str→Option Nat) (n:Nat),Tree st T val fr→(∀ q∈T,(∃ x∈xs,P++[x.1] <+: q.1)→fr q.1=none)→st[D]?=some (.list (List.replicate n .none))→¬ InTab T D →
   n + (xs.map fun x=>F x.1).sum < 2 ^ 24 →
  ∃ st' fr',(∀ (pm cd:Value) (L:Addr),LoopR (Turn w ad R (frEnv pm cd L a) (forT (sIn 33 1)) (forB (sIn 33 1))) (fun s=>∃ fr,s[b + 1]?=some (.fdd true es fr)) (itemsOf (onV V.str xs)) (frLoc b D) st none (frLoc b D) st') ∧
   st'[D]?=some (.list (List.replicate (n + (xs.map fun x=>F x.1).sum) .none)) ∧
   Tree st' T val fr'∧(∀ q∈T,(∃ x∈xs,P++[x.1] <+: q.1)→∃ cl,fr' q.1=some cl∧st'[cl]?=some (.cel (q.2 + 1))) ∧
   (∀ q∈T,¬ (∃ x∈xs,P++[x.1] <+: q.1)→fr' q.1=fr q.1)∧st.length≤st'.length ∧
   (∀ i,i < st.length→i≠D→(∀ q∈T,(∃ x∈xs,P++[x.1] <+: q.1)→i≠q.2 + 1)→st'[i]?=st[i]?):=by
 intro xs
 induction xs with
 | nil =>
  intro _ _ st fr n H _ hD _ _
  refine ⟨st,fr,fun pm cd L=>.nil ⟨fr P,by rw [hes];exact (H.at_ _ hm).2.1⟩,by assumption,H,fun q _ h=>?_,fun _ _ _=>rfl,Nat.le_refl _,fun _ _ _ _=>rfl⟩
  ·refine xEA h fun x hx _=>?_;exact memnil hx
 | cons x xs ih =>
  obtain ⟨x,v⟩:=x
  intro hx hnd st fr n H hun hD hDT hz
  rw [List.map_cons,List.nodup_cons] at hnd
  refine xEA (hc x v (hx _ (.head _))) fun c q'1 call=>?_;subst q'1
  refine xEEEAA (call st fr H fun q hq hp=>hun q hq ⟨_,.head _,hp⟩) fun st1 fr1 d C hd A=>?_
  have Dlt:D < st.length:=(List.getElem?_eq_some_iff.mp hD).1
  have hD1:st1[D]?=some (.list (List.replicate n .none)):=(A.keep D Dlt fun q hq _ e=>hDT ⟨q,hq,1,by decide,e⟩).trans hD
  simp only [List.map_cons,List.sum_cons] at hz
  have Dlt1:D < st1.length:=(List.getElem?_eq_some_iff.mp hD1).1
  let st2:St:=st1.set D (.list (List.replicate n V.none++List.replicate (F x) V.none))
  have hD2:st2[D]?=some (.list (List.replicate (n + F x) .none)):=by
   show (st1.set D _)[D]?=_
   rw [List.getElem?_set_self Dlt1,List.replicate_append_replicate]
  have H2:Tree st2 T val fr1:=A.tree.set hDT
  have dis:∀ q∈T,(∃ y∈xs,P++[y.1] <+: q.1)→¬ P++[x] <+: q.1:=fun q _ ⟨y,hy,hp⟩ h=>hnd.1 (List.mem_map.mpr ⟨y,hy,pre_uniq hp h⟩)
  refine xEEAAAAAA (ih (fun y hy=>hx y (.tail _ hy)) hnd.2 st2 fr1 (n + F x) H2 (fun q hq h=>(A.rest q hq (dis q hq h)).trans (hun q hq (let ⟨y,hy,hp⟩:=h;⟨y,.tail _ hy,hp⟩))) hD2 hDT (by omega)) fun st' fr' K hD' H' fz rs le kp=>?_
  have len2:st2.length=st1.length:=List.length_set ..
  have get2:∀ i,i≠D→st2[i]?=st1[i]?:=fun i hi=>List.getElem?_set_ne (Ne.symm hi)
  refine ⟨st',fr',fun pm cd L=>?_,?_,H',fun q hq h=>?_,fun q hq h=>?_,Nat.le_trans A.len (len2 ▸ le),fun i hi hiD h=>?_⟩
  ·refine .cons ⟨fr P,by rw [hes];exact (H.at_ _ hm).2.1⟩ ⟨_,TT.tup2 (TT.name (.inl rfl) (nc rfl)) (TT.name (.inl rfl) (nc rfl)),?_⟩ (K pm cd L)
   exact TS.sub (TS1.cons (TS1.extendAt (TE.name rfl (.inl rfl)) (TE.callG hf rfl (TL.cons (ns rfl) (TE.name rfl (.inl rfl)) TL.nil) C) hD hD1 hd (by simp only [List.length_replicate];omega) (ns rfl)) TS.nil) (sub_skip (sub_skip (fun _ _ h=>h) rfl) rfl)
  ·rw [hD'];simp only [List.map_cons,List.sum_cons,Nat.add_assoc]
  ·by_cases h2:∃ y∈xs,P++[y.1] <+: q.1
   ·exact fz q hq h2
   ·have hp:P++[x] <+: q.1:=by
     refine xEA h fun y hy hp=>?_
     rcases List.mem_cons.mp hy with rfl | hy
     ·exact hp
     ·exact absurd ⟨y,hy,hp⟩ h2
    refine xEA (A.froz q hq hp) fun cl e1 e2=>?_
    have cD:cl≠D:=fun e=>by subst e;rw [hD1] at e2;cases e2
    have cT:¬ InTab T cl:=fun ⟨p,hp,k,hk,e⟩=>by
     refine xAA (A.tree.at_ p hp) fun a1 a2 a3=>?_
     subst e
     match k,hk with
     | 0,_=>cases a1.symm.trans e2
     | 1,_=>cases a2.symm.trans e2
     | 2,_=>cases a3.symm.trans e2
    refine ⟨cl,(rs q hq h2).trans e1,?_⟩
    rw [kp cl (by rw [len2];exact (List.getElem?_eq_some_iff.mp e2).1) cD fun p hp _ e=>cT ⟨p,hp,1,by decide,e⟩,get2 cl cD]
    exact e2
  ·have h1:¬ ∃ y∈xs,P++[y.1] <+: q.1:=fun ⟨y,hy,hp⟩=>h ⟨y,.tail _ hy,hp⟩
   rw [rs q hq h1,A.rest q hq fun hp=>h ⟨_,.head _,hp⟩]
  ·rw [kp i (by rw [len2];exact Nat.lt_of_lt_of_le hi A.len) hiD fun q hq h2=>h q hq (let ⟨y,hy,hp⟩:=h2;⟨y,.tail _ hy,hp⟩),get2 i hiD]
   exact A.keep i hi fun q hq hp=>h q hq ⟨_,.head _,hp⟩
theorem kidNames_nodup (P:List Str):∀ {H:List (List Str)},H.Nodup→(kidNames H P).Nodup
 | [],_=>.nil
 | Q :: H,h=>by
  rw [List.nodup_cons] at h
  unfold kidNames
  rw [List.filterMap_cons]
  cases hk:kidOf P Q with
  | none=>exact kidNames_nodup P h.2
  | some x =>
   refine List.nodup_cons.mpr ⟨fun hm=>?_,kidNames_nodup P h.2⟩
   refine xEA (List.mem_filterMap.mp hm) fun R hR e=>?_
   rw [kidOf_some hk,← kidOf_some e] at h
   exact h.1 hR
theorem TM.freeze {n:Nat} {nodes:Bool} {es:List (V × V)} {fr:Option Nat} (hs:st[n]?=some (.fdd nodes es fr)):TM w ad r st ("freeze":Str) (.ref n) (.ref 105) [.ref n] :=
 TM.fdd hs (by decide) (by kernel_rfl) (tf:=.type "function") (by kernel_rfl) (by decide)
theorem frozen_call {a:Addr} {R b:Nat} {P:List Str} {F:Str→Nat} (G:Globs w ad) (hf:FnAt ad "_law_frozen" 33 a) (hm:(P,b)∈T)
  (hc:∀ x v,(x,v)∈kids T P→∃ c,v=.ref (c + 2)∧FrozenCall w ad (R + 4) a T val (P++[x]) c (F x)) (hz:1 + ((kidNames (T.map (·.1)) P).map F).sum < 2 ^ 24) :
  FrozenCall w ad (R + 5) a T val P b (1 + ((kidNames (T.map (·.1)) P).map F).sum):=by
 intro st fr H hun
 refine xAA (H.at_ _ hm) fun h0 h1 h2=>?_
 dsimp only at h0 h1 h2
 have lb:=H.lt hm
 dsimp only at lb
 rw [hun _ hm (List.prefix_refl _)] at h1
 have ek:((kidNames (T.map (·.1)) P).map F).sum=((kids T P).map fun x=>F x.1).sum:=by rw [← kids_names,List.map_map];rfl
 rw [ek] at hz ⊢
 let es:List (V × V):=onV V.str (kids T P)
 let st1:St:=(st++[MObj.cel (b + 1)]).set (b + 1) (.fdd true es (some st.length))
 let st2:St:=st1++[.list [.none]]
 let fr2:List Str→Option Nat:=fun Q=>if Q=P then some st.length else fr Q
 have len1:st1.length=st.length + 1:=by show ((st++[MObj.cel (b + 1)]).set _ _).length=_;rw [List.length_set];exact lenS
 have len2:st2.length=st.length + 2:=by show (st1++[MObj.list [.none]]).length=_;rw [List.length_append,len1];rfl
 have get2:∀ i,i < st.length→i≠b + 1→st2[i]?=st[i]?:=fun i hi hn=>by
  show (st1++[MObj.list [.none]])[i]?=_
  rw [List.getElem?_append_left (by rw [len1];exact ltS ‹_›)]
  show ((st++[MObj.cel (b + 1)]).set _ _)[i]?=_
  rw [List.getElem?_set_ne (Ne.symm hn),List.getElem?_append_left hi]
 have getb:st2[b + 1]?=some (.fdd true es (some st.length)):=by
  show (st1++[MObj.list [.none]])[b + 1]?=_
  rw [List.getElem?_append_left (by rw [len1];omega)]
  show ((st++[MObj.cel (b + 1)]).set _ _)[b + 1]?=_
  rw [List.getElem?_set_self (by simp;omega)]
 have getc:st2[st.length]?=some (.cel (b + 1)):=by
  show (st1++[MObj.list [.none]])[st.length]?=_
  rw [List.getElem?_append_left (by rw [len1];exact Nat.lt_succ_self _)]
  show ((st++[MObj.cel (b + 1)]).set _ _)[st.length]?=_
  rw [List.getElem?_set_ne (by omega)];exact at0
 have getD:st2[st.length + 1]?=some (.list (List.replicate 1 .none)):=by
  show (st1++[MObj.list [.none]])[st.length + 1]?=_
  rw [← len1];exact at0
 have H2:Tree st2 T val fr2:=H.refreeze fun q hq=>by
  have lq:=H.lt hq
  refine xAA (H.at_ q hq) fun a1 a2 a3=>?_
  by_cases e:q=(P,b)
  ·subst e
   refine ⟨get2 _ (by omega) (by omega),?_,get2 _ (by omega) (by omega)⟩
   show st2[b + 1]?=some (.fdd true _ (if P=P then _ else _))
   rw [if_pos rfl];exact getb
  ·have hne:q.1≠P:=fun h=>e (H.uniq hq hm h)
   have ap:=H.apart q hq _ hm e
   dsimp only at ap
   refine ⟨get2 _ (by omega) (by omega),?_,get2 _ (by omega) (by omega)⟩
   show st2[q.2 + 1]?=some (.fdd true _ (if q.1=P then _ else _))
   rw [if_neg hne,get2 _ (by exact Nat.lt_of_succ_lt ‹_›) (by omega)];exact a2
 have nd:((kids T P).map (·.1)).Nodup:=by rw [kids_names];exact kidNames_nodup P H.nodup
 have DT:¬ InTab T (st.length + 1):=fun ⟨q,hq,k,hk,e⟩=>by have:=H.lt hq;omega
 have nP:∀ x,¬ P++[x] <+: P:=fun x h=>by have:=h.length_le;simp at this;exact Nat.lt_irrefl _ ‹_›
 refine xEEAAAAAA (frozen_loop (R:=R + 4) (b:=b) (F:=F) (es:=es) hf hm rfl hc (kids T P) (fun _ h=>h) nd st2 fr2 1 H2 (fun q hq ⟨x,_,hp⟩=>by
  show (if q.1=P then _ else _)=none
  rw [if_neg (fun e:q.1=P=>nP x.1 (by rw [e] at hp;exact hp))]
  exact hun q hq (pre_kid hp)) getD DT hz) fun st' fr' K hD H' fz rs le kp=>?_
 refine ⟨st',fr',st.length + 1,?_,hD,H',fun q hq hp=>?_,fun q hq hp=>?_,by omega,fun i hi h=>?_⟩
 ·refine TC.def (ps:=["node"]) hf (fun pm cd=>Mine.len1 fun _=>rfl) (by decide) rfl (by decide) (by decide) ?m
  intro pm cd L
  refine TR.cons (TS1.assign (TE.val (TE.list (vs:=[V.none]) (TL.cons (ns rfl) (TE.meth0 (TE.part (r:=R + 2) (a:=.ref b) (b:=.ref (b + 1)) true G.plain (TE.name rfl (.inl rfl)) h2 rfl (nl rfl)) (TM.freeze h1) (Keeps1.of (by kernel_rfl)) (TC.freeze (r:=R + 3) G.tab h1)) TL.nil) (by show 1≤sizeLine;decide)) (v:=.ref (st.length + 1)) ?v) (.inl rfl) (nc rfl)) ?_
  case v=>rw [← len1]
  refine TR.cons (t:=sIn 33 1) (TS1.for (b:=false) (vals:=itemsOf es) (TX.items (TE.part (r:=R + 2) (a:=.ref b) (b:=.ref (b + 1)) true G.plain (TE.name rfl (.inl rfl)) ((get2 _ (by omega) (by omega)).trans h2) rfl (nl rfl)) getb) (K pm cd L) (.inr ⟨_,_,_,rfl⟩)) ?_
  exact TR.ret (TE.name rfl (.inl rfl))
 ·rcases pre_cases hp with e | ⟨x,hx⟩
  ·have eq:q=(P,b):=H.uniq hq hm e
   subst eq
   refine ⟨st.length,?_,?_⟩
   ·rw [rs _ hq (fun ⟨x,_,h⟩=>nP x.1 h)]
    show (if P=P then _ else _)=_
    rw [if_pos rfl]
   ·rw [kp st.length (by omega) (by omega) fun p hp _=>by have:=H.lt hp;omega]
    exact getc
  ·refine xE (H.kid_mem hq hx) fun v hv=>?_
   exact fz q hq ⟨_,hv,hx⟩
 ·rw [rs q hq fun ⟨x,_,h⟩=>hp (pre_kid h)]
  show (if q.1=P then _ else _)=_
  rw [if_neg fun e:q.1=P=>hp (by show P <+: q.1;rw [e];exact List.prefix_refl _)]
 ·have hb:i≠b + 1:=h _ hm (List.prefix_refl _)
  rw [kp i (by omega) (by exact neLS ‹_›) fun q hq ⟨x,_,hp⟩=>h q hq (pre_kid hp)]
  exact get2 i hi hb
theorem count_le {H:List (List Str)}:∀ (f:Nat) (P:List Str),countF H f P≤tB 1 H.length f
 | 0,_=>Nat.le_refl _
 | f + 1,P=>by
  have h3:(kidNames H P).length≤H.length:=List.length_filterMap_le ..
  have key:∀ l:List Str,(l.map fun x=>countF H f (P++[x])).sum≤l.length * tB 1 H.length f:=by
   intro l
   induction l with
   | nil=>exact Nat.zero_le _
   | cons x l ih =>
    have:=count_le (H:=H) f (P++[x])
    simp only [List.map_cons,List.sum_cons,List.length_cons,Nat.succ_mul]
    omega
  have h4:=Nat.mul_le_mul_right (tB 1 H.length f) h3
  have:=key (kidNames H P)
  unfold countF tB
  omega
theorem TC.frozen {a:Addr} (G:Globs w ad) (hf:FnAt ad "_law_frozen" 33 a):∀ (f:Nat) {b:Nat} {P:List Str},(P,b)∈T→(∀ q∈T,q.1.length≤P.length + f)→tB 1 T.length f < 2 ^ 24 →
  FrozenCall w ad (r + 5 + f) a T val P b (countF (T.map (·.1)) f P):=by
 intro f
 induction f with
 | zero =>
  intro b P hm hlen hb
  have e1:kidNames (T.map (·.1)) P=[]:=by
   refine List.filterMap_eq_nil_iff.mpr fun Q hQ=>?_
   refine xEA (List.mem_map.mp hQ) fun q hq q'1=>?_;subst q'1
   cases hk:kidOf P q.1 with
   | none=>rfl
   | some x =>
    have:=hlen q hq
    rw [kidOf_some hk] at this
    simp only [List.length_append,List.length_cons,List.length_nil] at this
    exact noLL ‹_› ‹_›
  have e0:kids T P=[]:=by
   have:=kids_names T P
   rw [e1] at this
   simpa using this
  have:=frozen_call (val:=val) (F:=fun _=>0) (R:=r) G hf hm (by rw [e0];nofun) (by rw [e1];decide)
  rw [e1] at this
  exact this
 | succ f ih =>
  intro b P hm hlen hb
  have hT:0 < T.length:=List.length_pos_of_mem hm
  have hb':tB 1 T.length f < 2 ^ 24:=by
   simp only [tB] at hb
   have:tB 1 T.length f≤T.length * tB 1 T.length f:=Nat.le_mul_of_pos_left _ hT
   omega
  have key:=frozen_call (val:=val) (F:=fun x=>countF (T.map (·.1)) f (P++[x])) (R:=r + 1 + f) G hf hm (fun x v hx=>by
   refine xEA (List.mem_filterMap.mp hx) fun z'1 ht h2=>?_;obtain ⟨Q,c⟩:=z'1
   refine xEA (Option.map_eq_some_iff.mp h2) fun y hy e=>?_
   cases e
   have hQ:=kidOf_some hy
   dsimp only at hQ
   subst hQ
   refine ⟨c,rfl,?_⟩
   rw [show r + 1 + f + 4=r + 5 + f by omega]
   exact ih ht (fun q hq=>by have:=hlen q hq;simp;omega) hb') (by
   have:=count_le (H:=T.map (·.1)) (f + 1) P
   rw [List.length_map] at this
   simp only [countF] at this
   exact Nat.lt_of_le_of_lt this hb)
  rw [show r + 1 + f + 5=r + 5 + (f + 1) by omega] at key
  exact key
end Mine
namespace Mine
open PySem PySem.W PySem.Calls PyProof.Rows PySem.Builtin PySem.Builtin.Str
variable {w : World} {ad : Adr} {r : Nat} {st st₁ st₂ st₃ : St} {env : Env} {loc loc₁ loc₂ loc₃ : Loc}
noncomputable def headsF (E:List (List Str × Str)):List (List Str):=E.foldl (fun H d=>addH H [] d.1) [[]]
noncomputable def HeadAt (st:St) (D:Nat) (v:V) (Q:List Str):Prop:=∃ k,v=.ref k∧st[k]?=some (strsO Q)∧k≠D
theorem HeadAt.grow {D:Nat} {v:V} {Q:List Str} (g:St) (h:HeadAt st D v Q):HeadAt (st++g) D v Q:=by
 refine xEAA h fun k e h q=>?_
 exact ⟨k,e,get_left _ h,q⟩
theorem HeadAt.mid {A G:St} {a b:MObj} {v:V} {Q:List Str} (h:HeadAt (A++a :: G) A.length v Q):HeadAt (A++b :: G) A.length v Q:=by
 refine xEAA h fun k e h q=>?_
 exact ⟨k,e,by rw [← get_mid (a:=a) q];exact h,q⟩
theorem heads_deep {D:Nat} {hs:List V} {H:List (List Str)} (x:All2 (HeadAt st D) hs H):DeepAll st hs (H.map PS):=by
 induction x with
 | nil=>exact .nil
 | cons q _ ih=>refine xEA q fun k q'1 r'2=>?_;try clear q;subst q'1;refine xA r'2 fun h _=>?_;exact .cons (Deep.path h) ih
theorem can_heads:∀ {H:List (List Str)},(∀ Q∈H,∀ x∈Q,SOk x)→PyData.canLayAll0 (H.map PS)=true
 | [],_=>by rfl
 | Q :: H,h=>by
  have h1:=can_path (h Q (.head _))
  have h2:=can_heads fun y hy=>h y (.tail _ hy)
  simp only [List.map_cons,PyData.canLayAll0,h1,h2,Bool.and_self]
theorem any_heads {H:List (List Str)} {Q:List Str}:((H.map PS).any fun y=>PyData.eqv y (PS Q))=decide (Q∈H):=by
 induction H with
 | nil=>rfl
 | cons y H ih =>
  rw [List.map_cons,List.any_cons,ih,eqv_path]
  simp only [List.mem_cons,Bool.decide_or]
  congr 1
  by_cases h:y=Q
  ·subst h;simp
  ·rw [beq_eq_false_iff_ne.mpr h,decide_eq_false fun e=>h e.symm]
theorem TO2.pathNotIn {n m D:Nat} {hs:List V} {H:List (List Str)} {Q:List Str} (hm:st[m]?=some (strsO Q)) (hn:st[n]?=some (.list hs)) (hh:All2 (HeadAt st D) hs H) (h1:∀ Q∈H,∀ x∈Q,SOk x) (h2:∀ x∈Q,SOk x) :
  TO2 w ad r st (compareOp .NotIn) (.ref m) (.ref n) (.bool (!decide (Q∈H))) st :=
 TO2.val (TO2.notInList (.list hn (heads_deep hh)) (Deep.path hm) (can_heads h1) (can_path h2) (by rw [depth_path];decide)) (by rw [any_heads])
noncomputable abbrev hdEnv (pm cd:Value) (L a:Addr):Env:=frameEnv 35 "_law_heads" pm cd L a
noncomputable abbrev hdLoc (e D:Nat):Loc:=[(("heads":Str),V.ref D),(("entries":Str),.ref e)]
theorem heads_step {a:Addr} {e m i:Nat} {path:List Str} {v:Str} {H:List (List Str)} {hs:List V} {g:St} (hm:∀ b,(st++MObj.list b :: g)[m]?=some (strsO path)) (hp:∀ x∈path,SOk x) (hH:∀ Q∈H,∀ x∈Q,SOk x) (hl:path.length < 2 ^ 20) (hz:hs.length < 2 ^ 20)
  (hh:All2 (HeadAt (st++MObj.list hs :: g) st.length) hs H) :
  ∃ hs' g',All2 (HeadAt (st++MObj.list hs' :: (g++g')) st.length) hs' (if path.take i∈H then H else H++[path.take i])∧hs'.length≤hs.length + 1 ∧
   (∀ pm cd L,TS w ad (r + 2) (hdEnv pm cd L a) ([(("size":Str),V.int (i:Nat))]++(([(("value":Str),.str v)]++[(("path":Str),.ref m)])++hdLoc e st.length)) (st++MObj.list hs :: g) (forB ((forB (sIn 35 1)).getD 0 (.Pass default))) none ((([(("value":Str),.str v)]++[(("path":Str),.ref m)])++hdLoc e st.length)) (st++MObj.list hs' :: (g++g'))):=by
 have hl24:(path.map V.str).length < 2 ^ 24:=by simp;exact Nat.lt_of_lt_of_le ‹_› (by decide)
 have e1:∀ (b:List V) (g2:St),(st++MObj.list b :: g2)++[MObj.list ((path.map V.str).take i)]=st++MObj.list b :: (g2++[strsO (path.take i)]):=fun b g2=>by simp [strsO,List.map_take]
 have hs1:∀ (b:List V) (g2:St),(st++MObj.list b :: (g2++[strsO (path.take i)]))[(st++MObj.list b :: g2).length]?=some (strsO (path.take i)):=fun b g2=>by
  have:st++MObj.list b :: (g2++[strsO (path.take i)])=(st++MObj.list b :: g2)++[strsO (path.take i)]:=by simp
  rw [this];exact at0
 have sub:∀ x y,List.lookup x (([(("value":Str),V.str v)]++[(("path":Str),.ref m)])++hdLoc e st.length)=some y→List.lookup x ([(("size":Str),V.int (i:Nat))]++(([(("value":Str),.str v)]++[(("path":Str),.ref m)])++hdLoc e st.length))=some y:=sub_skip (fun _ _ h=>h) rfl
 have hh1:All2 (HeadAt (st++MObj.list hs :: (g++[strsO (path.take i)])) st.length) hs H:=by
  have:=hh.imp fun _ _ h=>h.grow [strsO (path.take i)]
  rw [List.append_assoc,List.cons_append] at this
  exact this
 have hpt:∀ x∈path.take i,SOk x:=fun x hx=>hp x (List.mem_of_mem_take hx)
 by_cases hc:path.take i∈H
 ·refine ⟨hs,[strsO (path.take i)],by rw [if_pos hc];exact hh1,by exact Nat.le_succ _,fun pm cd L=>?_⟩
  refine TS.sub (TS1.cons (TS1.ifF (TB.val (TB.cmp (TE.sliceTo (TE.name rfl (.inl rfl)) (TE.name rfl (.inl rfl)) (hm hs) hl24) (TE.name rfl (.inl rfl)) (by rw [e1];exact TO2.pathNotIn (hs1 hs g) (by exact at0) hh1 hH hpt)) (by rw [decide_eq_true hc];rfl)) TS.nil) TS.nil) sub
 ·have hms:((st++MObj.list hs :: (g++[strsO (path.take i)])))[m]?=some (strsO path):=by
   have:=get_left [strsO (path.take i)] (hm hs)
   rw [List.append_assoc,List.cons_append] at this
   exact this
  refine ⟨hs++[.ref (st++MObj.list hs :: (g++[strsO (path.take i)])).length],[strsO (path.take i),strsO (path.take i)],?_,by exact leS,fun pm cd L=>?_⟩
  ·rw [if_neg hc]
   have e2:∀ b:List V,st++MObj.list b :: (g++[strsO (path.take i),strsO (path.take i)])=(st++MObj.list b :: (g++[strsO (path.take i)]))++[strsO (path.take i)]:=fun b=>by simp
   refine .append (hh1.imp fun _ _ h=>?_) (.cons ⟨_,rfl,?_,?_⟩ .nil)
   ·rw [e2];exact (HeadAt.mid h).grow _
   ·rw [e2];simp
   ·simp
  ·refine TS.sub (TS1.cons (TS1.ifT (TB.val (TB.cmp (TE.sliceTo (TE.name rfl (.inl rfl)) (TE.name rfl (.inl rfl)) (hm hs) hl24) (TE.name rfl (.inl rfl)) (by rw [e1];exact TO2.pathNotIn (hs1 hs g) (by exact at0) hh1 hH hpt)) (by rw [decide_eq_false hc];rfl))
    (TS.end (TS1.cons (TS1.append (st0:=st) (l:=hs) (g:=g++[strsO (path.take i),strsO (path.take i)]) (TE.name rfl (.inl rfl)) (TE.end (TE.sliceTo (TE.name rfl (.inl rfl)) (TE.name rfl (.inl rfl)) hms hl24) (by rw [e1];simp)) (by exact at0) (by exact Nat.lt_of_lt_of_le ‹_› (by decide)) (ns rfl)) TS.nil) rfl)) TS.nil) sub
theorem take_snoc {α:Type} (P:List α) (x:α) (xs:List α):(P++x :: xs).take (P.length + 1)=P++[x]:=by
 rw [show P++x :: xs=(P++[x])++xs by simp]
 exact List.take_left' (by exact lenS)
theorem addH_mem:∀ (xs:List Str) (H:List (List Str)) (P:List Str),∀ Q∈addH H P xs,Q∈H∨∃ n,Q=(P++xs).take n
 | [],_,_,_,h=>.inl h
 | x :: xs,H,P,Q,h=>by
  unfold addH at h
  rcases addH_mem xs _ _ Q h with h | ⟨n,h⟩
  ·split at h
   ·exact .inl h
   ·rcases List.mem_append.mp h with h | h
    ·exact .inl h
    ·refine .inr ⟨P.length + 1,?_⟩
     rw [List.mem_singleton.mp h,take_snoc]
  ·exact .inr ⟨n,by simpa using h⟩
theorem heads_inner {a:Addr} {e m:Nat} {path:List Str} {v:Str} (hp:∀ x∈path,SOk x) (hl:path.length < 2 ^ 20):∀ (xs P:List Str),path=P++xs→∀ (H:List (List Str)) (hs:List V) (g:St),(∀ b,(st++MObj.list b :: g)[m]?=some (strsO path))→(∀ Q∈H,∀ x∈Q,SOk x)→hs.length + xs.length < 2 ^ 20→All2 (HeadAt (st++MObj.list hs :: g) st.length) hs H →
  ∃ hs' g',All2 (HeadAt (st++MObj.list hs' :: (g++g')) st.length) hs' (addH H P xs)∧hs'.length≤hs.length + xs.length ∧
   (∀ pm cd L,LoopR (Turn w ad (r + 2) (hdEnv pm cd L a) (forT ((forB (sIn 35 1)).getD 0 (.Pass default))) (forB ((forB (sIn 35 1)).getD 0 (.Pass default)))) (fun _=>True) ((List.range' (P.length + 1) xs.length).map fun (i:Nat)=>V.int (i:Int)) ((([(("value":Str),.str v)]++[(("path":Str),.ref m)])++hdLoc e st.length)) (st++MObj.list hs :: g) none ((([(("value":Str),.str v)]++[(("path":Str),.ref m)])++hdLoc e st.length)) (st++MObj.list hs' :: (g++g'))):=by
 intro xs
 induction xs with
 | nil =>
  intro P _ H hs g _ _ _ hh
  exact ⟨hs,[],by rw [List.append_nil];exact hh,by simp,fun pm cd L=>by rw [List.append_nil];exact .nil trivial⟩
 | cons x xs ih =>
  intro P e0 H hs g hm hH hz hh
  simp only [List.length_cons] at hz
  refine xEEAA (heads_step (w:=w) (ad:=ad) (r:=r) (a:=a) (e:=e) (i:=P.length + 1) (v:=v) hm hp hH hl (by omega) hh) fun hs1 g1 A l1 T1=>?_
  have et:path.take (P.length + 1)=P++[x]:=by rw [e0,take_snoc]
  rw [et] at A
  have hm1:∀ b,(st++MObj.list b :: (g++g1))[m]?=some (strsO path):=fun b=>by
   have:=get_left g1 (hm b)
   rw [List.append_assoc,List.cons_append] at this
   exact this
  refine xEEAA (ih (P++[x]) (by rw [e0];simp) _ hs1 (g++g1) hm1 (fun Q hQ=>by
   split at hQ
   ·exact hH Q hQ
   ·rcases List.mem_append.mp hQ with h | h
    ·exact hH Q h
    ·rw [List.mem_singleton.mp h,← et];exact fun y hy=>hp y (List.mem_of_mem_take hy)) (by omega) A) fun hs2 g2 A2 l2 T2=>?_
  refine ⟨hs2,g1++g2,by rw [← List.append_assoc];exact A2,by simp only [List.length_cons];omega,fun pm cd L=>?_⟩
  rw [List.length_cons,List.range'_succ,List.map_cons,← List.append_assoc]
  have K:=T2 pm cd L
  rw [show (P++[x]).length + 1=P.length + 1 + 1 by simp] at K
  exact .cons trivial ⟨_,TT.name (.inl rfl) (nc rfl),T1 pm cd L⟩ K
theorem heads_loop {a:Addr} {e:Nat} {l0:List V} (G:Globs w ad) (he:st[e]?=some (.list l0)):∀ {l:List V} {E:List (List Str × Str)},PairsAt st l E→EOk E→(∀ d∈E,d.1.length < 1000)→∀ (H:List (List Str)) (hs:List V) (g:St),(∀ Q∈H,∀ x∈Q,SOk x)→hs.length + 1000 * E.length < 2 ^ 20→All2 (HeadAt (st++MObj.list hs :: g) st.length) hs H →
  ∃ hs' g',All2 (HeadAt (st++MObj.list hs' :: g') st.length) hs' (E.foldl (fun H d=>addH H [] d.1) H)∧hs'.length≤hs.length + 1000 * E.length ∧
   (∀ pm cd L,LoopR (Turn w ad (r + 2) (hdEnv pm cd L a) (forT (sIn 35 1)) (forB (sIn 35 1))) (fun st'=>st'[e]?=some (.list l0)) l (hdLoc e st.length) (st++MObj.list hs :: g) none (hdLoc e st.length) (st++MObj.list hs' :: g')):=by
 intro l E h
 induction h with
 | nil=>intro _ _ H hs g _ _ hh;exact ⟨hs,g,hh,by simp,fun pm cd L=>.nil (get_left _ he)⟩
 | @cons v d l E hd hl ih =>
  intro hE hlen H hs g hH hz hh
  refine xEA hd fun m q'1 hm=>?_;try clear hd;subst q'1
  simp only [List.length_cons] at hz
  have hdl:=hlen d (.head _)
  refine xEEAA (heads_inner (w:=w) (ad:=ad) (r:=r) (a:=a) (e:=e) (v:=d.2) (hE d (.head _)).1 (by omega) d.1 [] rfl H hs g (fun b=>get_left _ hm) hH (by omega) hh) fun hs1 g1 A l1 T1=>?_
  refine xEEAA (ih (fun x hx=>hE x (.tail _ hx)) (fun x hx=>hlen x (.tail _ hx)) _ hs1 (g++g1) (fun Q hQ=>by
   rcases addH_mem _ _ _ Q hQ with h | ⟨n,h⟩
   ·exact hH Q h
   ·rw [h];exact fun y hy=>(hE d (.head _)).1 y (by simpa using List.mem_of_mem_take hy)) (by omega) A) fun hs2 g2 A2 l2 T2=>?_
  refine ⟨hs2,g2,A2,by simp only [List.length_cons];omega,fun pm cd L=>?_⟩
  refine .cons (get_left _ he) ⟨_,TT.tup2 (TT.name (.inl rfl) (nc rfl)) (TT.name (.inl rfl) (nc rfl)),?_⟩ (T2 pm cd L)
  have hl24:(d.1.map V.str).length < 2 ^ 24:=by simp;omega
  have T1':=T1 pm cd L
  rw [show ([]:List Str).length + 1=1 from rfl] at T1'
  have ef:fromLo 1 d.1.length=(List.range' 1 d.1.length).map fun (i:Nat)=>V.int (i:Int):=by
   unfold fromLo
   rw [List.range'_eq_map_range,List.map_map]
   refine List.map_congr_left fun i _=>?_
   show V.int (1 + (i:Int))=V.int ((1 + i:Nat):Int)
   congr 1
  rw [← ef] at T1'
  have lenP:TE w ad (r + 2) (hdEnv pm cd L a) (([(("value":Str),.str d.2)]++[(("path":Str),.ref m)])++hdLoc e st.length) (st++MObj.list hs :: g) (.BinOp (.Call (.Name "len" ⟨207,29,207,32⟩) [.Name "path" ⟨207,33,207,37⟩] [] ⟨207,29,207,38⟩) .Add (.Constant (.int 1) 0 ⟨207,41,207,42⟩) ⟨207,29,207,42⟩) (.int (1 + (d.1.length:Nat))) (st++MObj.list hs :: g) :=
   TE.val (TE.bin (TE.callB (by rfl) G.len (by decide) rfl (TL.cons (ns rfl) (TE.name rfl (.inl rfl)) TL.nil) (TO.len (get_left _ hm) hl24)) TE.int TO2.add) (by simp;omega)
  refine TS.sub (TS1.cons (TS1.for (vals:=fromLo 1 d.1.length) (TX.range2 (lo:=1) (n:=d.1.length) G.range rfl (ns rfl) (ns rfl) TE.int lenP (by decide) (by decide) (Int.lt_of_lt_of_le (Int.ofNat_lt.mpr (by omega:d.1.length < 2 ^ 20)) (by decide))) T1' (.inl ⟨rfl,_,_,rfl⟩)) TS.nil) (sub_skip (sub_skip (fun _ _ h=>h) rfl) rfl)
theorem TC.heads {a:Addr} {e:Nat} {l:List V} {E:List (List Str × Str)} (G:Globs w ad) (hf:FnAt ad "_law_heads" 35 a) (he:st[e]?=some (.list l)) (hl:PairsAt st l E) (hE:EOk E) (hlen:∀ d∈E,d.1.length < 1000) (hz:E.length < 1000) :
  ∃ g d hs,TC w ad (r + 3) a st [.ref e] (.ref d) (st++g)∧(st++g)[d]?=some (.list hs)∧hs.length=(headsF E).length:=by
 have slen:(st++[strsO []]).length=st.length + 1:=by exact lenS
 obtain ⟨hs,g,A,_,K⟩:=heads_loop (w:=w) (ad:=ad) (r:=r) (a:=a) (st:=st++[strsO []]) G (get_left _ he) (hl.grow _) hE hlen [[]] [.ref st.length] [] (by intro Q hQ;rw [List.mem_singleton.mp hQ];nofun) (by simp;omega) (.cons ⟨st.length,rfl,by simp,by simp⟩ .nil)
 refine ⟨strsO [] :: MObj.list hs :: g,st.length + 1,hs,?_,by rw [List.getElem?_append_right (Nat.le_succ _)];simp,A.length⟩
 have e0:st++strsO [] :: MObj.list hs :: g=(st++[strsO []])++MObj.list hs :: g:=by simp
 rw [e0]
 refine TC.def (ps:=["entries"]) hf (fun pm cd=>len1 fun _=>rfl) (by decide) rfl (by decide) (by decide) ?m
 intro pm cd L
 refine TR.cons (TS1.assign (TE.val (TE.list (vs:=[V.ref st.length]) (TL.cons (ns rfl) (TE.list TL.nil (Nat.zero_le _)) TL.nil) (by show 1≤sizeLine;decide)) (v:=.ref (st.length + 1)) (by simp)) (.inl rfl) (nc rfl)) ?_
 have k:=K pm cd L
 rw [slen] at k
 refine TR.cons (t:=sIn 35 1) (TS1.for (TX.of (TE.name rfl (.inl rfl)) (TI.list (get_left _ (get_left _ he)))) k (.inr ⟨_,_,_,rfl⟩)) ?_
 exact TR.ret (TE.name rfl (.inl rfl))
end Mine
namespace Mine
open PySem PySem.W PySem.Calls PyProof.Rows PySem.Builtin PySem.Builtin.Str
variable {w : World} {ad : Adr} {r : Nat} {st st₁ st₂ st₃ : St} {env : Env} {loc loc₁ loc₂ loc₃ : Loc}
variable {T : Tab} {val : List Str → List Str} {fr : List Str → Option Nat}
noncomputable abbrev loEnv (pm cd:Value) (L a:Addr):Env:=frameEnv 37 "_law_lost" pm cd L a
noncomputable abbrev loLoc (b e:Nat):Loc:=[(("root":Str),V.ref (b + 2)),(("entries":Str),.ref e)]
noncomputable def Iced (st:St) (T:Tab) (fr:List Str→Option Nat):Prop:=∀ q∈T,∃ cl,fr q.1=some cl∧st[cl]?=some (.cel (q.2 + 1))
theorem Iced.grow (h:Iced st T fr) (g:St):Iced (st++g) T fr:=fun q hq=>let ⟨cl,a,b⟩:=h q hq;⟨cl,a,get_left _ b⟩
theorem lost_turn {a da:Addr} {b e m:Nat} {P:List Str} {v:Str} (G:Globs w ad) (hd:FnAt ad "_law_down" 30 da) (H:Tree st T val fr) (hfr:Iced st T fr) (hm:([],b)∈T) (hP:P∈T.map (·.1)) (hx:∀ q∈T,q.1≠P++[("?":Str)]) (hp:st[m]?=some (strsO P)) (hl:P.length < 2 ^ 20) :
  ∃ g,∀ pm cd L,TS w ad (r + 11) (loEnv pm cd L a) ((([(("value":Str),V.str v)]++[(("path":Str),.ref m)])++loLoc b e)) st (forB (sIn 37 0)) none (loLoc b e) (st++g):=by
 let S2:St:=(st++[MObj.list [V.str "?"]])++[MObj.list (P.map V.str++[V.str "?"])]
 have eS2:S2=st++[strsO ["?"],strsO (P++[("?":Str)])]:=by
  show (st++[MObj.list [V.str "?"]])++[MObj.list (P.map V.str++[V.str "?"])]=_
  simp [strsO]
 have H2:Tree S2 T val fr:=by rw [eS2];exact H.grow _
 have I2:Iced S2 T fr:=by rw [eS2];exact hfr.grow _
 have hn2:S2[(st++[MObj.list [V.str "?"]]).length]?=some (strsO (P++[("?":Str)])):=by
  show ((st++[MObj.list [V.str "?"]])++[MObj.list (P.map V.str++[V.str "?"])])[(st++[MObj.list [V.str "?"]]).length]?=_
  simp [strsO]
 have D:=TC.lostDown (r:=r) (a:=da) (w:=w) (ad:=ad) G hd H2 I2 hm hP hx hn2
 have g0:(newNode S2)[S2.length]?=some (.list []):=by simp [newNode]
 have g1:(newNode S2)[S2.length + 1]?=some (.fdd true [] none):=by simp [newNode]
 have g2:(newNode S2)[S2.length + 2]?=some (.pair (.ref S2.length) (.ref (S2.length + 1))):=by simp [newNode]
 let S3:St:=newNode S2++[.list []]
 have eS3:S3=S2++MObj.list [] :: [.fdd true [] none,.pair (.ref S2.length) (.ref (S2.length + 1)),.list []]:=by
  show newNode S2++[MObj.list []]=_
  simp [newNode]
 have hS3:S3[(newNode S2).length]?=some (.list []):=by show (newNode S2++[MObj.list []])[(newNode S2).length]?=_;exact at0
 refine ⟨[strsO ["?"],strsO (P++[("?":Str)])]++MObj.list [.str v] :: [.fdd true [] none,.pair (.ref S2.length) (.ref (S2.length + 1)),.list []],fun pm cd L=>?_⟩
 refine TS.sub (loc₁:=(("lost":Str),V.ref (S2.length + 2)) :: (([(("value":Str),V.str v)]++[(("path":Str),.ref m)])++loLoc b e)) (TS1.cons (TS1.assign (TE.callG hd rfl (TL.cons (ns rfl) (TE.name rfl (.inl rfl)) (TL.cons (ns rfl) (TE.bin (TE.name rfl (.inl rfl)) (TE.list (vs:=[V.str "?"]) (TL.cons (ns rfl) TE.cstr TL.nil) (by show 1≤sizeLine;decide)) (TO2.lcat (l:=P.map V.str) (l':=[V.str "?"]) (get_left _ hp) (by exact at0) ?c)) TL.nil)) D) (.inl rfl) (nc rfl)) ?rest) ?sub
 case c=>simp only [List.length_map,List.length_cons,List.length_nil];exact Nat.lt_of_le_of_lt ‹_› (by decide)
 case rest =>
  refine TS1.cons (TS1.ifF (TB.orF (TB.val (TB.cmp (TE.part (r:=r + 9) (a:=.ref S2.length) (b:=.ref (S2.length + 1)) false G.plain (TE.name rfl (.inl rfl)) g2 rfl (nl rfl)) (TE.list TL.nil (Nat.zero_le _)) (TO2.neDeep (d:=.list []) (e:=.list []) (.list (get_left _ g0) .nil) (.list hS3 .nil) (by simp [PyData.canLay0,PyData.canLayAll0]) (by simp [PyData.canLay0,PyData.canLayAll0]) (by exact Nat.succ_pos _))) (by simp [PyData.eqv,PyData.eqvAll]))
   (TB.orF (TB.val (TB.cmp (TE.callB (by rfl) G.len (by decide) rfl (TL.cons (ns rfl) (TE.part (r:=r + 9) (a:=.ref S2.length) (b:=.ref (S2.length + 1)) true G.plain (TE.name rfl (.inl rfl)) (get_left _ g2) rfl (nl rfl)) TL.nil) (TO.lenFdd (get_left _ g1) (by decide))) TE.int TO2.ne) (by rfl)) TB.orNil)) TS.nil) ?_
  show TS w ad (r + 11) _ _ S3 _ _ _ _
  have hp3:S3[S2.length + 2]?=some (.pair (.ref S2.length) (.ref (S2.length + 1))):=get_left _ g2
  rw [eS3] at hp3 ⊢
  refine TS.end (TS1.cons (TS1.append (st0:=S2) (l:=[]) (TE.part (r:=r + 9) (a:=.ref S2.length) (b:=.ref (S2.length + 1)) false G.plain (TE.name rfl (.inl rfl)) hp3 rfl (nl rfl)) (TE.name rfl (.inl rfl)) (by exact at0) (by decide) (ns rfl)) TS.nil) ?_
  rw [eS2];exact List.append_assoc ..
 case sub=>exact sub_skip (sub_skip (sub_skip (fun _ _ h=>h) rfl) rfl) rfl
theorem lost_loop {a da:Addr} {b e t:Nat} {l0:List V} (G:Globs w ad) (hd:FnAt ad "_law_down" 30 da) (hm:([],b)∈T) (hq:∀ q∈T,∀ x∈q.1,x≠("?":Str)):∀ (l:List V) (E:List (List Str × Str)) (st:St),Tree st T val fr→Iced st T fr→PairsAt st l E→(∀ d∈E,d.1∈T.map (·.1))→(∀ d∈E,d.1.length < 2 ^ 20)→st[t]?=some (.list l0) →
  ∃ g,∀ pm cd L,LoopR (Turn w ad (r + 11) (loEnv pm cd L a) (forT (sIn 37 0)) (forB (sIn 37 0))) (fun s=>s[t]?=some (.list l0)) l (loLoc b e) st none (loLoc b e) (st++g):=by
 intro l
 induction l with
 | nil =>
  intro E st H I h _ _ ht
  exact ⟨[],fun pm cd L=>by rw [List.append_nil];exact .nil ht⟩
 | cons v l ih =>
  intro E0 st H I h hT hlen ht
  cases h with | cons hd' hl =>
  rename_i d E
  refine xEA hd' fun m q'1 hp=>?_;try clear hd';subst q'1
  refine xE (lost_turn (w:=w) (ad:=ad) (r:=r) (a:=a) (e:=e) (v:=d.2) G hd H I hm (hT d (.head _)) (fun q hq' h=>hq q hq' "?" (by rw [h];exact snocMem) rfl) hp (hlen d (.head _))) fun g1 K1=>?_
  refine xE (ih E (st++g1) (H.grow g1) (I.grow g1) (hl.imp fun _ _ h=>h.grow g1) (fun x hx=>hT x (.tail _ hx)) (fun x hx=>hlen x (.tail _ hx)) (get_left _ ht)) fun g2 K2=>?_
  refine ⟨g1++g2,fun pm cd L=>?_⟩
  rw [← List.append_assoc]
  exact .cons ht ⟨_,TT.tup2 (TT.name (.inl rfl) (nc rfl)) (TT.name (.inl rfl) (nc rfl)),K1 pm cd L⟩ (K2 pm cd L)
theorem TC.lost {a:Addr} {b e:Nat} {l:List V} {E:List (List Str × Str)} (G:Globs w ad) (hf:FnAt ad "_law_lost" 37 a) (H:Tree st T val fr) (I:Iced st T fr) (hm:([],b)∈T) (hq:∀ q∈T,∀ x∈q.1,x≠("?":Str)) (he:st[e]?=some (.list l)) (hl:PairsAt st l E) (hT:∀ d∈E,d.1∈T.map (·.1)) (hlen:∀ d∈E,d.1.length < 2 ^ 20) (hz:E.length < 2 ^ 20) :
  ∃ g,TC w ad (r + 12) a st [.ref (b + 2),.ref e] (.bool true) (st++g):=by
 refine xE G.down fun da hd=>?_
 have zl:l.length=E.length:=hl.length
 refine xE (lost_loop (w:=w) (ad:=ad) (r:=r) (a:=a) (b:=b) (e:=e) (t:=st.length) (l0:=l++l) G hd hm hq (l++l) (E++E) (st++[MObj.list (l++l)]) (H.grow [MObj.list (l++l)]) (I.grow _) ((hl.append hl).imp fun _ _ h=>h.grow _) (fun d hd=>by rcases List.mem_append.mp hd with h | h <;> exact hT d h) (fun d hd=>by rcases List.mem_append.mp hd with h | h <;> exact hlen d h) (by exact at0)) fun g K=>?_
 refine ⟨[MObj.list (l++l)]++g,?_⟩
 rw [← List.append_assoc]
 refine TC.def (ps:=["root","entries"]) hf (fun pm cd=>len2 fun _ _=>rfl) (by decide) rfl (by decide) (by decide) ?m
 intro pm cd L
 refine TR.cons (t:=sIn 37 0) (TS1.for (vals:=l++l) (TX.of (TE.bin (TE.name rfl (.inl rfl)) (TE.name rfl (.inl rfl)) (TO2.lcat he he (by omega))) (TI.list (by exact at0))) (K pm cd L) (.inr ⟨_,_,_,rfl⟩)) ?_
 exact TR.ret TE.bool
end Mine
namespace Mine
open PySem PySem.W PySem.Calls PyProof.Rows PySem.Builtin PySem.Builtin.Str
variable {w : World} {ad : Adr} {r : Nat} {st st₁ st₂ st₃ : St} {env : Env} {loc loc₁ loc₂ loc₃ : Loc}
theorem SubOk.tup4 {value slice:Expr} {a b c d:V}
  (hsub:∀ (a:Addr) (i:Int) (u:Tok),subscripted slice false (.ref a) (.int i u)=operate [.ref a,.int i u] (getItem (.ref a) (.int i u)):=by intro _ _ _;rfl):SubOk w ad r st value slice (.tup4 a b c d) (.int 3) d st:=by
 intro A E s μ x y Q hA S rx ry k
 refine rx.tup4_ fun _ _ _ _ _ _ hg ra rb rc rd=>?_
 cases ry
 rename_i ta x1 x2 x3 x4 n t
 have hT:s.TypeIs (.ref ta) "tuple":=⟨_,hg,rfl⟩
 exact tail_any hT F.slot_tuple_getitem.lookup (PySem.P.getItem_tuple (t:=ta) (items:=#[x1,x2,x3,x4]) (n:=n) (k:=3) (y:=x4) hg (by decide) (by decide) rfl rfl (k _ _ s.toks μ .refl S rd)) (hsub _ _ _)
theorem Deep.intsAll:∀ {l:List Int},DeepAll st (l.map V.int) (l.map PyData.int)
 | []=>.nil
 | x :: _=>.cons (.int x) Deep.intsAll
theorem Deep.ints {n:Nat} {l:List Int} (h:st[n]?=some (intsO l)):Deep st (.ref n) (.list (l.map .int)):=.list h Deep.intsAll
theorem can_ints:∀ {l:List Int},PyData.canLayAll0 (l.map PyData.int)=true
 | []=>by rfl
 | x :: l=>by simp [PyData.canLayAll0,PyData.canLay0,can_ints (l:=l)]
theorem can_intl {l:List Int}:(PyData.list (l.map .int)).canLay0=true:=by simp only [PyData.canLay0];exact can_ints
theorem depth_ints:∀ {l:List Int},PyData.depthAll (l.map PyData.int)=0
 | []=>by rfl
 | x :: l=>by simp [PyData.depthAll,PyData.depth,depth_ints (l:=l)]
theorem depth_intl {l:List Int}:(PyData.list (l.map .int)).depth≤20:=by simp only [PyData.depth,depth_ints];decide
theorem eqv_ints:∀ {l m:List Int},PyData.eqvAll (l.map PyData.int) (m.map PyData.int)=(l == m)
 | [],[]=>by rfl
 | [],_ :: _=>by rfl
 | _ :: _,[]=>by rfl
 | x :: l,y :: m=>by
  simp only [List.map_cons,PyData.eqvAll,PyData.eqv,eqv_ints (l:=l) (m:=m)]
  rfl
theorem eqv_intl {l m:List Int}:PyData.eqv (.list (l.map .int)) (.list (m.map .int))=(l == m):=by
 simp only [PyData.eqv];exact eqv_ints
theorem any_ints {l:List Int} {x:Int}:((l.map PyData.int).any fun y=>PyData.eqv y (.int x))=l.contains x:=by
 induction l with
 | nil=>rfl
 | cons y l ih =>
  simp only [List.map_cons,List.any_cons,ih,PyData.eqv,List.contains_cons]
  rw [show (y == x)=(x == y) from BEq.comm]
theorem TO2.neInts {n m:Nat} {l k:List Int} (hn:st[n]?=some (intsO l)) (hm:st[m]?=some (intsO k)):TO2 w ad r st (compareOp .NotEq) (.ref n) (.ref m) (.bool (!(l == k))) st :=
 TO2.val (TO2.neDeep (Deep.ints hn) (Deep.ints hm) can_intl can_intl depth_intl) (by rw [eqv_intl])
theorem TO2.eqInts {n m:Nat} {l k:List Int} (hn:st[n]?=some (intsO l)) (hm:st[m]?=some (intsO k)):TO2 w ad r st (compareOp .Eq) (.ref n) (.ref m) (.bool (l == k)) st :=
 TO2.val (TO2.eqDeep (Deep.ints hn) (Deep.ints hm) can_intl can_intl depth_intl) (by rw [eqv_intl])
theorem TO2.intNotIn {n:Nat} {l:List Int} {x:Int} (hn:st[n]?=some (intsO l)):TO2 w ad r st (compareOp .NotIn) (.int x) (.ref n) (.bool (!l.contains x)) st :=
 TO2.val (TO2.notInList (Deep.ints hn) (.int x) can_ints (by simp only [PyData.canLay0]) (Nat.zero_le _)) (by rw [any_ints])
noncomputable def RowAt (v:V) (t:Int):Prop:=∃ a b c,v=.tup4 a b c (.int t)
noncomputable def firstsT (ts:List Int):List Int:=ts.foldl (fun fs t=>if t != 0 && !fs.contains t then fs++[t] else fs) []
noncomputable def placesF (ts:List Int) (t:Int):List Int:=((List.range ts.length).filter fun i=>ts.getD i 0 == t).map fun (i:Nat)=>(i:Int)
noncomputable abbrev rrEnv (pm cd:Value) (L a:Addr):Env:=frameEnv 36 "_law_refused_right" pm cd L a
noncomputable abbrev rrLoc (rw rf D:Nat):Loc:=[(("firsts":Str),V.ref D),(("rows":Str),.ref rw),(("refused":Str),.ref rf)]
theorem rr_loop1 {a:Addr} {rw rf:Nat} {l0:List V} (ho:st[rw]?=some (.list l0)):∀ {l:List V} {ts:List Int},All2 RowAt l ts→∀ (fs:List Int),fs.length + ts.length < 2 ^ 20→∀ pm cd L,
  LoopR (Turn w ad (r + 1) (rrEnv pm cd L a) (forT (sIn 36 1)) (forB (sIn 36 1))) (fun s=>s[rw]?=some (.list l0)) l (rrLoc rw rf st.length) (st++[intsO fs]) none (rrLoc rw rf st.length) (st++[intsO (ts.foldl (fun fs t=>if t != 0 && !fs.contains t then fs++[t] else fs) fs)]):=by
 intro l ts h
 induction h with
 | nil=>intro fs _ pm cd L;exact .nil (get_left _ ho)
 | @cons v t l ts hv hl ih =>
  intro fs hz pm cd L
  refine xEEE hv fun x y z q'1=>?_;try clear hv;subst q'1
  simp only [List.length_cons] at hz
  rw [List.foldl_cons]
  have hD:(st++[intsO fs])[st.length]?=some (intsO fs):=by exact at0
  have sub:∀ u q,List.lookup u (rrLoc rw rf st.length)=some q→List.lookup u (([(("table":Str),V.int t)]++([(("value":Str),z)]++([(("path":Str),y)]++[(("text":Str),x)])))++rrLoc rw rf st.length)=some q:=sub_skip (sub_skip (sub_skip (sub_skip (fun _ _ h=>h) rfl) rfl) rfl) rfl
  have c1:TB w ad (r + 1) (rrEnv pm cd L a) (([(("table":Str),V.int t)]++([(("value":Str),z)]++([(("path":Str),y)]++[(("text":Str),x)])))++rrLoc rw rf st.length) (st++[intsO fs]) (isTrue (ifT ((forB (sIn 36 1)).getD 0 (.Pass default))) (rrEnv pm cd L a) (eval (ifT ((forB (sIn 36 1)).getD 0 (.Pass default))) (rrEnv pm cd L a))) (t != 0 && !fs.contains t) (st++[intsO fs]):=by
   cases h1:t != 0 with
   | false=>exact TB.andF (TB.val (TB.cmp (TE.name rfl (.inr (.inl rfl))) TE.int TO2.ne) h1)
   | true =>
    rw [Bool.true_and]
    refine TB.andT (TB.val (TB.cmp (TE.name rfl (.inr (.inl rfl))) TE.int TO2.ne) h1) ?_
    cases h2:!fs.contains t with
    | false=>exact TB.andF (TB.val (TB.cmp (TE.name rfl (.inr (.inl rfl))) (TE.name rfl (.inl rfl)) (TO2.intNotIn hD)) h2)
    | true=>exact TB.andT (TB.val (TB.cmp (TE.name rfl (.inr (.inl rfl))) (TE.name rfl (.inl rfl)) (TO2.intNotIn hD)) h2) TB.andNil
  have tt:TT w ad (r + 1) (rrEnv pm cd L a) (forT (sIn 36 1)) (.tup4 x y z (.int t)) ([(("table":Str),V.int t)]++([(("value":Str),z)]++([(("path":Str),y)]++[(("text":Str),x)]))) :=
   TT.tup4 (TT.name (.inl rfl) (nc rfl)) (TT.name (.inl rfl) (nc rfl)) (TT.name (.inl rfl) (nc rfl)) (TT.name (.inr rfl) fun _=>⟨rfl,rfl⟩)
  cases hc:(t != 0 && !fs.contains t) with
  | true =>
   rw [hc] at c1
   rw [if_pos rfl]
   exact .cons (get_left _ ho) ⟨_,tt,TS.sub (TS1.cons (TS1.ifT c1 (TS.end (TS1.cons (TS1.append (st0:=st) (l:=fs.map V.int) (g:=[]) (TE.name rfl (.inl rfl)) (TE.name rfl (.inr (.inl rfl))) (by assumption) (by simp;omega) (ns rfl)) TS.nil) (by simp [intsO]))) TS.nil) sub⟩ (ih (fs++[t]) (by simp;omega) pm cd L)
  | false =>
   rw [hc] at c1
   rw [if_neg Bool.false_ne_true]
   exact .cons (get_left _ ho) ⟨_,tt,TS.sub (TS1.cons (TS1.ifF c1 TS.nil) TS.nil) sub⟩ (ih fs (by exact Nat.lt_of_succ_lt ‹_›) pm cd L)
theorem rr_comp {a:Addr} {rw:Nat} {l:List V} {ts:List Int} {t:Int} (hr:st[rw]?=some (.list l)) (hl:All2 RowAt l ts) (hz:l.length < 2 ^ 20) (pm cd:Value) (L C:Addr):∀ (m i:Nat),i + m=ts.length →
  CompR (CTurn w ad (r + 1) (compEnvC (cScope (cmpR (ifT ((forB (sIn 36 2)).getD 0 (.Pass default))))) [(("table":Str),L + 2),(("rows":Str),L + 1)] C (rrEnv pm cd L a)) [(("rows":Str),.ref rw),(("table":Str),.int t)] (cGen (cmpR (ifT ((forB (sIn 36 2)).getD 0 (.Pass default))))).target (cGen (cmpR (ifT ((forB (sIn 36 2)).getD 0 (.Pass default))))).ifs (cElt (cmpR (ifT ((forB (sIn 36 2)).getD 0 (.Pass default)))))) (fun _=>True)
   ((List.range' i m).map fun (i:Nat)=>V.int (i:Int)) st ((((List.range' i m).filter fun i=>ts.getD i 0 == t).map fun (i:Nat)=>(i:Int)).map V.int) st:=by
 intro m
 induction m with
 | zero=>intro i _;exact .nil trivial
 | succ m ih =>
  intro i hi
  have hil:i < ts.length:=by omega
  have hi62:i < 2 ^ 62:=by have:=hl.length;omega
  obtain ⟨v,hv,hR⟩:∃ v,l[i]?=some v∧RowAt v (ts.getD i 0):=by
   have hll:i < l.length:=by rw [hl.length];exact hil
   refine xEA (hl.get i (a:=l[i]) (by simp [hll])) fun t' e R=>?_
   refine ⟨l[i],by simp [hll],?_⟩
   have:ts.getD i 0=t':=by simp [List.getD,e]
   rw [this];exact R
  refine xEEE hR fun x y z q'1=>?_;try clear hR;subst q'1
  rw [List.range'_succ,List.map_cons]
  have cp:∀ u q,List.lookup u [(("rows":Str),V.ref rw),(("table":Str),.int t)]=some q→List.lookup u [(("place":Str),V.int (i:Nat))]=none:=fun u q e=>by
   rcases List.mem_cons.mp (mem_lookup e) with h | h
   ·cases h;rfl
   ·cases List.mem_singleton.mp h;rfl
  cases hc:ts.getD i 0 == t with
  | true =>
   rw [List.filter_cons_of_pos (by exact hc),List.map_cons,List.map_cons]
   exact .take trivial ⟨_,st,TT.name (.inl rfl) (nc rfl),cp,TF.one (TB.val (TB.cmp (TE.sub (TE.sub (TE.name rfl (.inr (.inl rfl))) (TE.name rfl (.inl rfl)) (SubOk.listN hr hi62 hv)) TE.int SubOk.tup4) (TE.name rfl (.inr (.inl rfl))) TO2.eq) hc),TE.name rfl (.inl rfl)⟩ (ih (i + 1) (by omega))
  | false =>
   rw [List.filter_cons_of_neg (by rw [hc];exact Bool.false_ne_true)]
   exact .skip trivial ⟨_,st,TT.name (.inl rfl) (nc rfl),cp,TF.one (TB.val (TB.cmp (TE.sub (TE.sub (TE.name rfl (.inr (.inl rfl))) (TE.name rfl (.inl rfl)) (SubOk.listN hr hi62 hv)) TE.int SubOk.tup4) (TE.name rfl (.inr (.inl rfl))) TO2.eq) hc),rfl⟩ (ih (i + 1) (by omega))
structure RefAt (st:St) (rf cl:Nat) (kvs:List (Int × V)) (ts:List Int):Prop where
 fdd:st[rf]?=some (.fdd false (onV V.int kvs) (some cl))
 cell:st[cl]?=some (.cel rf)
 val:∀ t v,vAt kvs t=some v→∃ k,v=.ref k∧st[k]?=some (intsO (placesF ts t))
 none:∀ t,t≠0→vAt kvs t=none→placesF ts t=[]
theorem RefAt.grow {rf cl:Nat} {kvs:List (Int × V)} {ts:List Int} (R:RefAt st rf cl kvs ts) (g:St):RefAt (st++g) rf cl kvs ts :=
 ⟨get_left _ R.fdd,get_left _ R.cell,fun t v h=>let ⟨k,a,b⟩:=R.val t v h;⟨k,a,get_left _ b⟩,R.none⟩
theorem rr_turn {a:Addr} {rw rf cl D:Nat} {l:List V} {ts:List Int} {kvs:List (Int × V)} {t:Int} (G:Globs w ad) (hr:st[rw]?=some (.list l)) (hl:All2 RowAt l ts) (hz:l.length < 2 ^ 20) (R:RefAt st rf cl kvs ts) (ht:t≠0) :
  ∃ g,∀ pm cd L,TS w ad (r + 6) (rrEnv pm cd L a) ([(("table":Str),V.int t)]++rrLoc rw rf D) st (forB (sIn 36 2)) none (rrLoc rw rf D) (st++g):=by
 have zl:=hl.length
 have sub:∀ u q,List.lookup u (rrLoc rw rf D)=some q→List.lookup u ([(("table":Str),V.int t)]++rrLoc rw rf D)=some q:=sub_skip (fun _ _ h=>h) rfl
 have comp:∀ (S:St) (pm cd:Value) (L:Addr),S[rw]?=some (.list l)→TE w ad (r + 6) (rrEnv pm cd L a) ([(("table":Str),V.int t)]++rrLoc rw rf D) S (cmpR (ifT ((forB (sIn 36 2)).getD 0 (.Pass default)))) (.ref S.length) (S++[intsO (placesF ts t)]):=fun S pm cd L hrS=>by
  refine TE.comp (vals:=fromLo 0 l.length) (us:=(placesF ts t).map V.int) (Ok:=fun _=>True) (capt:=[(("rows":Str),.ref rw),(("table":Str),.int t)]) [(("table":Str),L + 2),(("rows":Str),L + 1)] (TX.range1 G.range rfl (ns rfl) (TE.callB (by rfl) G.len (by decide) rfl (TL.cons (ns rfl) (TE.name rfl (.inr (.inl rfl))) TL.nil) (TO.len hrS (by exact Nat.lt_of_lt_of_le ‹_› (by decide)))) ?n) ?loop (.inl ⟨rfl,_,_,rfl⟩) rfl (by decide) rfl (by decide) ?cl ?clp ?capt ?sz (by intro _;rfl)
  case n=>exact Int.lt_of_lt_of_le (Int.ofNat_lt.mpr hz) (by decide)
  case sz=>rw [fromLo0];simp only [List.length_map,List.length_range];exact Nat.le_of_lt (Nat.lt_of_lt_of_le hz (by decide))
  case clp =>
   refine .cons (fun p hp=>?_) (.cons nofun .nil)
   rw [List.mem_singleton.mp hp]
   exact Nat.ne_of_gt (Nat.lt_succ_self _)
  case cl =>
   intro p hp
   show p∈[(("table":Str),L + 1 + 1),(("rows":Str),L + 1)]
   exact hp
  case capt =>
   intro y v e
   rcases List.mem_cons.mp (mem_lookup e) with h | h
   ·cases h
    exact ⟨rfl,.inl rfl,rfl,fun q=>nomatch (show some NameKind.cell=some NameKind.local from q)⟩
   ·cases List.mem_singleton.mp h
    exact ⟨rfl,.inl rfl,rfl,fun q=>nomatch (show some NameKind.cell=some NameKind.local from q)⟩
  case loop =>
   intro C
   have:=rr_comp (w:=w) (ad:=ad) (r:=r + 5) (a:=a) (t:=t) hrS hl hz pm cd L C ts.length 0 (by exact Nat.add_comm _ _)
   rw [← List.range_eq_range'] at this
   rw [fromLo0,zl]
   exact this
 cases hv:vAt kvs t with
 | some v =>
  refine xEA (R.val t v hv) fun k q'1 hk=>?_;subst q'1
  refine ⟨[intsO (placesF ts t)],fun pm cd L=>?_⟩
  refine TS.sub (TS1.cons (TS1.ifF (TB.val (TB.cmp (TE.sub (TE.name rfl (.inl rfl)) (TE.name rfl (.inr (.inl rfl))) (SubOk.hit kiInt R.fdd hv (by intro _ _;rfl))) (comp st pm cd L hr) (TO2.neInts (l:=placesF ts t) (k:=placesF ts t) (get_left _ hk) (by exact at0))) (by simp)) TS.nil) TS.nil) sub
 | none =>
  have e0:=R.none t ht hv
  refine ⟨[intsO []]++[intsO (placesF ts t)],fun pm cd L=>?_⟩
  rw [← List.append_assoc]
  refine TS.sub (TS1.cons (TS1.ifF (TB.val (TB.cmp (TE.sub (TE.name rfl (.inl rfl)) (TE.name rfl (.inr (.inl rfl))) (SubOk.missF (r:=r + 1) kiInt G.hide R.fdd R.cell hv (TFac.list (r:=r)) (by intro _ _;rfl))) (comp (st++[intsO []]) pm cd L (get_left _ hr)) (TO2.neInts (l:=[]) (k:=placesF ts t) (get_left _ (by exact at0)) (by exact at0))) (by rw [e0];rfl)) TS.nil) TS.nil) sub
theorem rr_loop2 {a:Addr} {rw rf cl D:Nat} {l:List V} {ts:List Int} {kvs:List (Int × V)} (G:Globs w ad) (hl:All2 RowAt l ts) (hz:l.length < 2 ^ 20) {t0:Nat} {l0:List V}:∀ (xs:List Int) (st:St),(∀ x∈xs,x≠0)→st[rw]?=some (.list l)→RefAt st rf cl kvs ts→st[t0]?=some (.list l0) →
  ∃ g,∀ pm cd L,LoopR (Turn w ad (r + 6) (rrEnv pm cd L a) (forT (sIn 36 2)) (forB (sIn 36 2))) (fun s=>s[t0]?=some (.list l0)) (xs.map V.int) (rrLoc rw rf D) st none (rrLoc rw rf D) (st++g):=by
 intro xs
 induction xs with
 | nil=>intro st _ _ _ h0;exact ⟨[],fun pm cd L=>by rw [List.append_nil];exact .nil h0⟩
 | cons x xs ih =>
  intro st hx hr R h0
  refine xE (rr_turn (w:=w) (ad:=ad) (r:=r) (a:=a) (D:=D) G hr hl hz R (hx x (.head _))) fun g1 K1=>?_
  refine xE (ih (st++g1) (fun y hy=>hx y (.tail _ hy)) (get_left _ hr) (R.grow g1) (get_left _ h0)) fun g2 K2=>?_
  refine ⟨g1++g2,fun pm cd L=>?_⟩
  rw [← List.append_assoc]
  exact .cons h0 ⟨_,TT.name (.inr rfl) fun _=>⟨rfl,rfl⟩,K1 pm cd L⟩ (K2 pm cd L)
theorem TC.refused {a:Addr} {rw rf cl:Nat} {l:List V} {ts:List Int} {kvs:List (Int × V)} (G:Globs w ad) (hf:FnAt ad "_law_refused_right" 36 a) (hr:st[rw]?=some (.list l)) (hl:All2 RowAt l ts) (hz:l.length < 2 ^ 19) (R:RefAt st rf cl kvs ts) (hk:kvs.map (·.1)=firstsT ts) (hkz:kvs.length < 2 ^ 20) :
  ∃ g,TC w ad (r + 7) a st [.ref rw,.ref rf] (.bool true) (st++g):=by
 have zl:=hl.length
 let fs:=firstsT ts
 let S1:St:=st++[intsO fs]
 let S2:St:=S1++[intsO [4,6,7,8,9]]
 refine xE (rr_loop2 (w:=w) (ad:=ad) (r:=r) (a:=a) (D:=st.length) (t0:=S1.length) (l0:=[4,6,7,8,9].map V.int) G hl (by exact ltA ‹_›) [4,6,7,8,9] S2 (by decide) (get_left _ (get_left _ hr)) ((R.grow _).grow _) (by show (S1++[intsO [4,6,7,8,9]])[S1.length]?=_;exact at0)) fun g K2=>?_
 refine ⟨[intsO fs]++([intsO [4,6,7,8,9]]++(g++[intsO fs])),?_⟩
 have e:st++([intsO fs]++([intsO [4,6,7,8,9]]++(g++[intsO fs])))=(S2++g)++[intsO fs]:=by
  show _=(((st++[intsO fs])++[intsO [4,6,7,8,9]])++g)++[intsO fs]
  simp
 rw [e]
 have hD:(S2++g)[st.length]?=some (intsO fs):=get_left _ (get_left _ (by show (st++[intsO fs])[st.length]?=_;exact at0))
 have hrf:(S2++g)[rf]?=some (.fdd false (onV V.int kvs) (some cl)):=get_left _ (get_left _ (get_left _ R.fdd))
 refine TC.def (ps:=["rows","refused"]) hf (fun pm cd=>len2 fun _ _=>rfl) (by decide) rfl (by decide) (by decide) ?m
 intro pm cd L
 refine TR.cons (TS1.assign (TE.list TL.nil (Nat.zero_le _)) (.inl rfl) (nc rfl)) ?_
 have k1:=rr_loop1 (w:=w) (ad:=ad) (r:=r + 5) (a:=a) (rw:=rw) (rf:=rf) hr hl [] (by simp;omega) pm cd L
 refine TR.cons (t:=sIn 36 1) (TS1.for (TX.of (TE.name rfl (.inr (.inl rfl))) (TI.list (get_left _ hr))) k1 (.inr ⟨_,_,_,rfl⟩)) ?_
 refine TR.cons (t:=sIn 36 2) (TS1.for (vals:=[4,6,7,8,9].map V.int) (TX.of (TE.list (vs:=[4,6,7,8,9].map V.int) (TL.cons (ns rfl) TE.int (TL.cons (ns rfl) TE.int (TL.cons (ns rfl) TE.int (TL.cons (ns rfl) TE.int (TL.cons (ns rfl) TE.int TL.nil))))) (by show 5≤sizeLine;decide)) (TI.list (by exact at0))) (K2 pm cd L) (.inl ⟨rfl,_,_,rfl⟩)) ?_
 refine TR.val (TR.ret (TE.cmp (TE.comp (b:=false) (vals:=itemsOf (onV V.int kvs)) (us:=(kvs.map (·.1)).map V.int) (capt:=[]) [] (TX.items (TE.name rfl (.inl rfl)) hrf) ?loop (.inr ⟨_,_,_,rfl⟩) rfl (by decide) rfl (by decide) nm .nil nk ?sz) (TE.name rfl (.inl rfl)) (TO2.eqInts (l:=kvs.map (·.1)) (k:=fs) ?h1 (get_left _ hD)))) ?v ?s
 case sz=>simp only [itemsOf,onV,List.length_map];exact Nat.le_of_lt (Nat.lt_of_lt_of_le hkz (by decide))
 case loop =>
  intro C
  have e1:itemsOf (onV V.int kvs)=kvs.map fun p=>V.tup2 (.int p.1) p.2:=by exact map2
  have e2:(kvs.map (·.1)).map V.int=kvs.map fun p=>V.int p.1:=by exact map2
  rw [e1,e2]
  exact CompR.each ⟨_,hrf⟩ fun p _=>⟨_,S2++g,TT.tup2 (TT.name (.inl rfl) (nc rfl)) (TT.name (.inl rfl) (nc rfl)),nk,TF.nil,TE.name rfl (.inl rfl)⟩
 case h1=>exact at0
 case v=>rw [hk];simp [fs]
 case s=>rw [hk];rfl
end Mine
namespace Mine
open PySem PySem.W PySem.Calls PyProof.Rows PySem.Builtin PySem.Builtin.Str
variable {w : World} {ad : Adr} {r : Nat} {st st₁ st₂ st₃ : St} {env : Env} {loc loc₁ loc₂ loc₃ : Loc}
variable {T : Tab} {val : List Str → List Str} {fr : List Str → Option Nat}
theorem TS1.assignSwap2 {t₁ t₂:Expr} {k:Nat} {tpos pos:Pos} {e:Expr} {a b:V} {x y:Str} (T:TE w ad r env loc st e (.tup2 a b) st₁)
  (hx:env.kindOf x=some .local) (hy:env.kindOf y=some .local)
  (hs:swapsWithSole [.Tuple [t₁,t₂] k tpos] e pos.line env=pure false:=by rfl) (hw:swappedStores [.Tuple [t₁,t₂] k tpos] e env=pure (some [x,y]):=by rfl) :
  TS1 w ad r env loc st (.Assign [.Tuple [t₁,t₂] k tpos] e pos) none ((x,a) :: (y,b) :: loc) st₁:=by
 intro A E s μ Q hA S F h
 refine Assign_Tuple_swapped (names:=[x,y]) (T A E s μ _ hA S F fun mv h₁ tk₁ μ₁ t₁ S₁ F₁ rv=>?_) hs hw
 refine rv.tup2_ fun _ _ _ _ e1 ra rb=>?_
 rename_i ta u v n
 refine wpAny_sized (wpAny_unpackItems_tuple (items:=#[u,v]) hA.handled ⟨_,e1,rfl,n,rfl⟩ fun h2 C2 hz=>?_)
 have T2:Step ad.tabs [] μ₁ h₁ μ₁ h2:=.extBut hz C2
 have S2:=S₁.grow hz fun b o e=>C2 b o (Nat.ne_of_lt (Heap.lt_size e)) e
 have F2:=F₁.up S₁ T2
 show wpAny _ _ (do holding [u] (bindName env y v);assignInOrder [bindName env x] [u]) _ _ _
 refine wpAny_bind (wpAny_holding (wpAny_bindName (store (.inl hy) (by rw [hy];nofun) S2 F2 (rb.up S₁ T2 Loose.nil) fun h3 tk3 T3 S3 F3=>?_)))
 show wpAny _ _ (do holding [] (bindName env x u);assignInOrder [] []) _ _ _
 refine wpAny_bind (wpAny_holding (wpAny_bindName (store (.inl hx) (by rw [hx];nofun) S3 F3 ((ra.up S₁ T2 Loose.nil).up S2 T3 F2.loose) fun h4 tk4 T4 S4 F4=>?_)))
 refine wpAny_pure ?_
 exact h .next h4 tk4 μ₁ (((t₁.wide.trans0 T2.wide).trans0 T3).trans0 T4) S4 F4 rfl
section
theorem TS1.appendAt {o e:Expr} {apos pos pos':Pos} {l:List V} {D:Nat} {v:V} (To:TE w ad r env loc st o (.ref D) st₁) (Te:TE w ad r env loc st₁ e v st₂) (hst:st₁[D]?=some (.list l)) (hD:st₂[D]?=some (.list l)) (hl:l.length < 2 ^ 24) (hns:∀ x p,e≠.Starred x p)
  (hE:∃ pl,eval (.Call (.Attribute o ("append":Str) apos) [e] [] pos) env=(do
   let ov ← eval o env
   standAt apos.atName
   let (f,first) ← holding [ov] (getMethod ov ("append":Str) pl)
   callWith pos f first (backTo pos (starEach [e] env)) (backToKw pos (keywordEach [] env))):=by exact ⟨_,by with_unfolding_all rfl⟩)
  (he:starEach [e] env=(false,eval e env) :: starEach [] env:=by rfl)
  (hi:interactive env=false:=by rfl) (hs:swapsWith (.Call (.Attribute o ("append":Str) apos) [e] [] pos) none pos'.line env=pure false:=by rfl) :
  TS1 w ad r env loc st (.Expr (.Call (.Attribute o ("append":Str) apos) [e] [] pos) pos') none loc (st₂.set D (.list (l++[v]))) :=
 TS1.expr (TE.meth To (TM.list hst F.slot_list_append F.type_list_append) Keeps1.builtin (TL.cons hns Te TL.nil) (TO.append hD hl) hE he) hi hs
end
theorem Tree.setVal {P:List Str} {b:Nat} {vs:List Str} {val':List Str→List Str} (H:Tree st T val fr) (hm:(P,b)∈T) (h1:val' P=vs) (h2:∀ q∈T,q.1≠P→val' q.1=val q.1):Tree (st.set b (strsO vs)) T val' fr:=by
 have lb:=H.lt hm
 dsimp only at lb
 refine ⟨fun q hq=>?_,H.nodup,H.apart,H.closed⟩
 refine xAA (H.at_ q hq) fun a1 a2 a3=>?_
 by_cases e:q=(P,b)
 ·subst e
  dsimp only at a1 a2 a3 ⊢
  refine ⟨?_,?_,?_⟩
  ·rw [List.getElem?_set_self (by omega),h1]
  ·rw [List.getElem?_set_ne (by omega)];exact a2
  ·rw [List.getElem?_set_ne (by omega)];exact a3
 ·have hne:q.1≠P:=fun h=>e (H.uniq hq hm h)
  have ap:=H.apart q hq _ hm e
  dsimp only at ap
  rw [h2 q hq hne]
  refine ⟨?_,?_,?_⟩
  ·rw [List.getElem?_set_ne (by omega)];exact a1
  ·rw [List.getElem?_set_ne (by omega)];exact a2
  ·rw [List.getElem?_set_ne (by omega)];exact a3
theorem placesF_snoc (ts:List Int) (t u:Int):placesF (ts++[t]) u=placesF ts u++(if t == u then [(ts.length:Int)] else []):=by
 unfold placesF
 rw [List.length_append,List.length_singleton,List.range_succ,List.filter_append,List.map_append]
 congr 1
 ·congr 1
  refine List.filter_congr fun i hi=>?_
  have:=List.mem_range.mp hi
  rw [show (ts++[t]).getD i 0=ts.getD i 0 by simp [List.getD,List.getElem?_append_left this]]
 ·rw [List.filter_cons]
  rw [show (ts++[t]).getD ts.length 0=t by simp [List.getD]]
  cases t == u <;> rfl
theorem firstsT_snoc (ts:List Int) (t:Int):firstsT (ts++[t])=if t != 0 && !(firstsT ts).contains t then firstsT ts++[t] else firstsT ts:=by
 unfold firstsT
 rw [List.foldl_append]
 rfl
structure RowD where
 ns:List Str
 v:Str
 tb:List Int
noncomputable def entsF (ds:List RowD):List (List Str × Str):=ds.filterMap fun d=>if d.tb=[] then some (d.ns,d.v) else none
noncomputable def tabsF (ds:List RowD):List Int:=ds.map fun d=>d.tb.headD 0
noncomputable def valF (E:List (List Str × Str)) (P:List Str):List Str:=(E.filter fun d=>d.1 == P).map (·.2)
structure RInv (st0 S:St) (T:Tab) (kvs:List (Int × V)) (b rf:Nat) (ds:List RowD):Prop where
 low:∀ i,i < st0.length→S[i]?=st0[i]?
 len:st0.length≤S.length
 tree:Tree S T (valF (entsF ds)) (fun _=>none)
 root:([],b)∈T
 heads:T.map (·.1)=headsF (entsF ds)
 tlow:∀ q∈T,st0.length≤q.2
 fdd:S[rf]?=some (.fdd false (onV V.int kvs) none)
 rlow:st0.length≤rf
 keys:kvs.map (·.1)=firstsT (tabsF ds)
 refs:∀ t v,vAt kvs t=some v→∃ k,v=.ref k∧S[k]?=some (intsO (placesF (tabsF ds) t))∧¬ InTab T k∧st0.length≤k
 inj:∀ t t' k,vAt kvs t=some (.ref k)→vAt kvs t'=some (.ref k)→t=t'
 none_:∀ t,t≠0→vAt kvs t=none→placesF (tabsF ds) t=[]
 tsz:T.length≤1 + 1000 * ds.length
variable {st0 S:St} {kvs:List (Int × V)} {b rf:Nat} {ds:List RowD}
theorem RInv.grow (R:RInv st0 S T kvs b rf ds) (g:St):RInv st0 (S++g) T kvs b rf ds :=
 {R with
  low:=fun i hi=>by rw [List.getElem?_append_left (Nat.lt_of_lt_of_le hi R.len)];exact R.low i hi
  len:=by rw [List.length_append];exact Nat.le_trans R.len (Nat.le_add_right _ _)
  tree:=R.tree.grow g
  fdd:=get_left _ R.fdd
  refs:=fun t v h=>let ⟨k,a,b,c,d⟩:=R.refs t v h;⟨k,a,get_left _ b,c,d⟩ }
theorem RInv.rfOff (R:RInv st0 S T kvs b rf ds):¬ InTab T rf:=fun ⟨q,hq,k,hk,e⟩=>by
 refine xAA (R.tree.at_ q hq) fun a1 a2 a3=>?_
 have f:=R.fdd
 rw [e] at f
 match k,hk with
 | 0,_=>cases a1.symm.trans f
 | 1,_=>cases a2.symm.trans f
 | 2,_=>cases a3.symm.trans f
theorem entsF_good {d:RowD} (h:d.tb=[]):entsF (ds++[d])=entsF ds++[(d.ns,d.v)]:=by simp [entsF,List.filterMap_append,h]
theorem entsF_bad {d:RowD} (h:d.tb≠[]):entsF (ds++[d])=entsF ds:=by simp [entsF,List.filterMap_append,h]
theorem tabsF_snoc (d:RowD):tabsF (ds++[d])=tabsF ds++[d.tb.headD 0]:=by exact List.map_append
theorem valF_snoc (E:List (List Str × Str)) (P Q:List Str) (v:Str):valF (E++[(Q,v)]) P=valF E P++(if Q=P then [v] else []):=by
 unfold valF
 rw [List.filter_append,List.map_append,List.filter_cons]
 by_cases h:Q=P
 ·subst h;simp
 ·rw [if_neg (by simpa using h),if_neg h];rfl
theorem RInv.good {d:RowD} {S4:St} {T':Tab} {b':Nat} (R:RInv st0 S T kvs b rf ds) (ht:d.tb=[]) (hl:d.ns.length≤1000) (H:Tree S4 T' (valF (entsF ds)) (fun _=>Option.none)) (hm:(d.ns,b')∈T') (hmap:T'.map (·.1)=addH (T.map (·.1)) [] d.ns) (D:DownKeeps S T S4 T') (hT:T'.length≤T.length + d.ns.length) :
  RInv st0 (S4.set b' (strsO (valF (entsF ds) d.ns++[d.v]))) T' kvs b rf (ds++[d]):=by
 have et:tabsF (ds++[d])=tabsF ds++[0]:=by rw [tabsF_snoc,ht];rfl
 have tl:∀ q∈T',st0.length≤q.2:=fun q hq=>by
  rcases D.new q hq with h | h
  ·exact R.tlow q h
  ·exact Nat.le_trans R.len h
 have off:∀ i,i < S.length→¬ InTab T i→¬ InTab T' i:=fun i hi h ⟨q,hq,k,hk,e⟩=>by
  rcases D.new q hq with h' | h'
  ·exact h ⟨q,h',k,hk,e⟩
  ·omega
 have get4:∀ i,i < S.length→¬ InTab T i→(S4.set b' (strsO (valF (entsF ds) d.ns++[d.v])))[i]?=S[i]?:=fun i hi h=>by
  rw [List.getElem?_set_ne (fun e:b'=i=>off i hi h ⟨_,hm,0,by decide,e.symm⟩)]
  exact D.keep i hi fun q hq e=>h ⟨q,hq,1,by decide,e⟩
 have pl:∀ t,t≠0→placesF (tabsF (ds++[d])) t=placesF (tabsF ds) t:=fun t h=>by
  rw [et,placesF_snoc,if_neg (by simpa using fun e=>h e.symm),List.append_nil]
 have nz:∀ t v,vAt kvs t=some v→t≠0:=fun t v h e=>by
  subst e
  have hk:(0:Int)∈kvs.map (·.1):=by
   unfold vAt at h
   refine xEA (Option.map_eq_some_iff.mp h) fun p hp _=>?_
   exact List.mem_map.mpr ⟨p,List.mem_of_find?_eq_some hp,by simpa using List.find?_some hp⟩
  rw [R.keys] at hk
  have:∀ (ts fs:List Int),(0:Int)∈ts.foldl (fun fs t=>if t != 0 && !fs.contains t then fs++[t] else fs) fs→0∈fs:=by
   intro ts
   induction ts with
   | nil=>intro fs h;exact h
   | cons t ts ih =>
    intro fs h
    rw [List.foldl_cons] at h
    have:=ih _ h
    split at this
    ·next hc =>
     rcases List.mem_append.mp this with h | h
     ·exact h
     ·rw [← List.mem_singleton.mp h] at hc;trivial
    ·exact this
  exact absurd (this _ _ hk) nofun
 refine ⟨fun i hi=>?_,?_,?_,D.old _ R.root,?_,tl,?_,R.rlow,?_,fun t v h=>?_,R.inj,fun t h1 h2=>?_,?_⟩
 ·have hiS:=Nat.lt_of_lt_of_le hi R.len
  rw [get4 i hiS fun ⟨q,hq,k,hk,e⟩=>by have:=R.tlow q hq;omega]
  exact R.low i hi
 ·rw [List.length_set];exact Nat.le_trans R.len D.len
 ·refine H.setVal hm ?_ fun q hq hne=>?_
  ·rw [entsF_good ht,valF_snoc,if_pos rfl]
  ·rw [entsF_good ht,valF_snoc,if_neg (fun e=>hne e.symm),List.append_nil]
 ·rw [hmap,R.heads,entsF_good ht]
  unfold headsF
  rw [List.foldl_append]
  rfl
 ·rw [get4 rf (List.getElem?_eq_some_iff.mp R.fdd).1 R.rfOff];exact R.fdd
 ·rw [R.keys,et,firstsT_snoc]
  rfl
 ·refine xEA (R.refs t v h) fun k q'1 r'2=>?_;subst q'1;refine xAA r'2 fun h1 h2 h3=>?_
  have kl:=(List.getElem?_eq_some_iff.mp h1).1
  refine ⟨k,rfl,?_,off k kl h2,h3⟩
  rw [get4 k kl h2,pl t (nz t _ h)];exact h1
 ·rw [pl t h1];exact R.none_ t h1 h2
 ·rw [List.length_append,List.length_singleton]
  have:=R.tsz
  omega
end Mine
namespace Mine
open PySem PySem.W PySem.Calls PyProof.Rows PySem.Builtin PySem.Builtin.Str
variable {w : World} {ad : Adr} {r : Nat} {st st₁ st₂ st₃ : St} {env : Env} {loc loc₁ loc₂ loc₃ : Loc}
variable {T : Tab} {val : List Str → List Str} {fr : List Str → Option Nat}
variable {st0 S : St} {kvs : List (Int × V)} {b rf : Nat} {ds : List RowD}
theorem tabsF_len (ds:List RowD):(tabsF ds).length=ds.length:=List.length_map ..
theorem vAt_mem {t:Int} {v:V} (h:vAt kvs t=some v):t∈kvs.map (·.1):=by
 unfold vAt at h
 refine xEA (Option.map_eq_some_iff.mp h) fun p hp _=>?_
 exact List.mem_map.mpr ⟨p,List.mem_of_find?_eq_some hp,by simpa using List.find?_some hp⟩
theorem vAt_not {t:Int} (h:vAt kvs t=none):t∉kvs.map (·.1):=fun hm=>by
 refine xEA (List.mem_map.mp hm) fun p hp e=>?_
 unfold vAt at h
 rw [Option.map_eq_none_iff] at h
 exact absurd (List.find?_eq_none.mp h p hp) (by simp [e])
theorem vAt_snoc {t u:Int} {v:V} (h:vAt kvs t=none):vAt (kvs++[(t,v)]) u=if t=u then some v else vAt kvs u:=by
 unfold vAt at h ⊢
 rw [List.find?_append]
 by_cases e:t=u
 ·subst e
  rw [Option.map_eq_none_iff] at h
  rw [h,if_pos rfl];simp
 ·rw [if_neg e]
  cases kvs.find? fun p=>p.1=u <;> simp [e]
theorem RInv.hit {d:RowD} {k:Nat} (R:RInv st0 S T kvs b rf ds) (ht:d.tb≠[]) (h0:d.tb.headD 0≠0) (hv:vAt kvs (d.tb.headD 0)=some (.ref k)) :
  RInv st0 (S.set k (intsO (placesF (tabsF ds) (d.tb.headD 0)++[(ds.length:Int)]))) T kvs b rf (ds++[d]):=by
 refine xEAAA (R.refs _ _ hv) fun k' e hk hoff hlow=>?_
 cases e
 have kl:=(List.getElem?_eq_some_iff.mp hk).1
 have et:=tabsF_snoc (ds:=ds) d
 have get4:∀ i,i≠k→(S.set k (intsO (placesF (tabsF ds) (d.tb.headD 0)++[(ds.length:Int)])))[i]?=S[i]?:=fun i hi=>List.getElem?_set_ne (Ne.symm hi)
 have krf:rf≠k:=fun e=>by have:=R.fdd;rw [e,hk] at this;cases this
 refine ⟨fun i hi=>(get4 i (by omega)).trans (R.low i hi),by rw [List.length_set];exact R.len,?_,R.root,?_,R.tlow,(get4 rf krf).trans R.fdd,R.rlow,?_,fun t v h=>?_,R.inj,fun t h1 h2=>?_,?_⟩
 ·rw [entsF_bad ht];exact R.tree.set hoff
 ·rw [entsF_bad ht];exact R.heads
 ·rw [R.keys,et,firstsT_snoc,if_neg]
  intro hc
  rw [Bool.and_eq_true] at hc
  have h2:=hc.2
  rw [Bool.not_eq_true'] at h2
  have:=vAt_mem hv
  rw [R.keys] at this
  exact absurd (List.contains_iff_mem.mpr this) (by rw [h2];exact Bool.false_ne_true)
 ·refine xEA (R.refs t v h) fun k2 q'1 r'2=>?_;subst q'1;refine xAA r'2 fun h1 h2 h3=>?_
  refine ⟨k2,rfl,?_,h2,h3⟩
  rw [et,placesF_snoc,tabsF_len]
  by_cases e:k2=k
  ·have:=R.inj t _ _ h (e ▸ hv)
   subst this
   rw [e,List.getElem?_set_self kl];simp
  ·have hne:d.tb.headD 0≠t:=fun e2=>by
    rw [← e2,hv] at h;cases h;exact e rfl
   rw [get4 k2 e,if_neg (by simpa using hne),List.append_nil];exact h1
 ·have hne:d.tb.headD 0≠t:=fun e=>by rw [e,h2] at hv;cases hv
  rw [et,placesF_snoc,if_neg (by simpa using hne),List.append_nil];exact R.none_ t h1 h2
 ·rw [List.length_append,List.length_singleton];have:=R.tsz;omega
theorem RInv.miss {d:RowD} (R:RInv st0 S T kvs b rf ds) (ht:d.tb≠[]) (h0:d.tb.headD 0≠0) (hv:vAt kvs (d.tb.headD 0)=none) :
  RInv st0 (((S++[MObj.list []]).set rf (.fdd false (onV V.int (kvs++[(d.tb.headD 0,.ref S.length)])) none)).set S.length (intsO [(ds.length:Int)])) T (kvs++[(d.tb.headD 0,.ref S.length)]) b rf (ds++[d]):=by
 have et:=tabsF_snoc (ds:=ds) d
 have rl:=(List.getElem?_eq_some_iff.mp R.fdd).1
 have len4:(((S++[MObj.list []]).set rf (.fdd false (onV V.int (kvs++[(d.tb.headD 0,.ref S.length)])) none)).set S.length (intsO [(ds.length:Int)])).length=S.length + 1:=by simp
 have get4:∀ i,i < S.length→i≠rf→(((S++[MObj.list []]).set rf (.fdd false (onV V.int (kvs++[(d.tb.headD 0,.ref S.length)])) none)).set S.length (intsO [(ds.length:Int)]))[i]?=S[i]?:=fun i hi hn=>by
  rw [List.getElem?_set_ne (by exact neG ‹_›),List.getElem?_set_ne (Ne.symm hn),List.getElem?_append_left hi]
 have nk:∀ t k,vAt kvs t=some (.ref k)→k < S.length:=fun t k h=>by
  refine xEAA (R.refs _ _ h) fun k' e hk _=>?_
  cases e
  exact (List.getElem?_eq_some_iff.mp hk).1
 have lt:=fun q (hq:q∈T)=>R.tree.lt hq
 refine ⟨fun i hi=>?_,by rw [len4];exact Nat.le_succ_of_le R.len,?_,R.root,?_,R.tlow,?_,R.rlow,?_,fun t v h=>?_,fun t t' k h1 h2=>?_,fun t h1 h2=>?_,?_⟩
 ·have:=R.rlow
  rw [get4 i (Nat.lt_of_lt_of_le hi R.len) (by omega)];exact R.low i hi
 ·rw [entsF_bad ht]
  exact R.tree.same fun q hq k hk=>get4 _ (by have:=lt q hq;omega) fun e=>R.rfOff ⟨q,hq,k,hk,e.symm⟩
 ·rw [entsF_bad ht];exact R.heads
 ·rw [List.getElem?_set_ne (by exact neG ‹_›),List.getElem?_set_self (by simp;exact ltS ‹_›)]
 ·rw [List.map_append,R.keys,et,firstsT_snoc,if_pos]
  ·rfl
  ·have:=vAt_not hv
   rw [R.keys] at this
   rw [Bool.and_eq_true]
   refine ⟨bne_iff_ne.mpr h0,?_⟩
   rw [Bool.not_eq_true']
   cases hc:(firstsT (tabsF ds)).contains (d.tb.headD 0) with
   | false=>rfl
   | true=>exact absurd (List.contains_iff_mem.mp hc) this
 ·rw [vAt_snoc hv] at h
  rw [et,placesF_snoc,tabsF_len]
  split at h
  ·next e =>
   cases h
   subst e
   refine ⟨_,rfl,?_,fun ⟨q,hq,k,hk,e⟩=>by have:=lt q hq;omega,R.len⟩
   rw [List.getElem?_set_self (by simp),R.none_ _ h0 hv];simp
  ·next e =>
   refine xEA (R.refs t v h) fun k2 q'1 r'2=>?_;subst q'1;refine xAA r'2 fun a1 a2 a3=>?_
   refine ⟨k2,rfl,?_,a2,a3⟩
   have k2l:=(List.getElem?_eq_some_iff.mp a1).1
   rw [if_neg (by simpa using e),List.append_nil,get4 k2 k2l fun e2=>by have:=R.fdd;rw [← e2,a1] at this;cases this]
   exact a1
 ·rw [vAt_snoc hv] at h1 h2
  split at h1 <;> split at h2
  ·next e1 e2=>rw [← e1,← e2]
  ·next e1 e2=>cases h1;have:=nk _ _ h2;exact noLL ‹_› ‹_›
  ·next e1 e2=>cases h2;have:=nk _ _ h1;omega
  ·exact R.inj _ _ _ h1 h2
 ·rw [vAt_snoc hv] at h2
  split at h2
  ·cases h2
  ·next e=>rw [et,placesF_snoc,if_neg (by simpa using e),List.append_nil];exact R.none_ t h1 h2
 ·rw [List.length_append,List.length_singleton];have:=R.tsz;omega
noncomputable abbrev rdEnv (pm cd:Value) (L a:Addr):Env:=frameEnv 31 "_law_read" pm cd L a
noncomputable abbrev rdLoc (b rf rw:Nat):Loc:=[(("root":Str),V.ref (b + 2)),(("refused":Str),.ref rf),(("rows":Str),.ref rw)]
structure ReadsAs (x:Str) (d:RowD):Prop where
 peels:Peels x d.ns d.v
 tb:d.tb=forbF (glued "" d.ns).cps.toList
 nz:d.tb≠[]→d.tb.headD 0≠0
 few:d.ns.length≤1000
 small:∀ y∈d.ns,y.length≤100
 tot:(glued "" d.ns).length≤1000
theorem read_turn {a:Addr} {rw:Nat} {l0:List V} {x:Str} {d:RowD} (G:Globs w ad) (R:RInv st0 S T kvs b rf ds) (X:ReadsAs x d) (hrw:st0[rw]?=some (.list l0)) (hx:l0[ds.length]?=some (.str x)) (hz:ds.length < 1000) (hkz:kvs.length≤2 ^ 20) (hplz:∀ t,(placesF (tabsF ds) t).length≤ds.length) (hvz:∀ P,(valF (entsF ds) P).length≤ds.length) (hheads:∀ Q,(∀ q∈T,q.1≠Q)→valF (entsF ds) Q=[]) :
  ∃ S' T' kvs',RInv st0 S' T' kvs' b rf (ds++[d])∧(∀ pm cd L,THS w ad (r + 11) (rdEnv pm cd L a) ([(("place":Str),V.int (ds.length:Nat))]++rdLoc b rf rw) S (forB (sIn 31 1)) none (rdLoc b rf rw) S'):=by
 refine xE G.peeled fun pa hpe=>?_
 refine xE G.forbidden fun fa hfb=>?_
 refine xE G.down fun da hdn=>?_
 refine xE (TCH.peeled (st:=S) (r:=r) G hpe X.peels (Nat.lt_of_le_of_lt X.few (by decide))) fun g CP=>?_
 let S1:St:=S++strsO d.ns :: g
 let S2:St:=S1++[intsO d.tb]
 let S3:St:=S2++[.list []]
 have rlt:rw < st0.length:=(List.getElem?_eq_some_iff.mp hrw).1
 have hrS:S[rw]?=some (.list l0):=(R.low rw rlt).trans hrw
 have hn1:S1[S.length]?=some (strsO d.ns):=by show (S++strsO d.ns :: g)[S.length]?=_;exact at0
 have hn3:S3[S.length]?=some (strsO d.ns):=get_left _ (get_left _ hn1)
 have ht2:S2[S1.length]?=some (intsO d.tb):=by show (S1++[intsO d.tb])[S1.length]?=_;exact at0
 have ht3:S3[S1.length]?=some (intsO d.tb):=get_left _ ht2
 have he3:S3[S2.length]?=some (intsO []):=by show (S2++[MObj.list []])[S2.length]?=_;exact at0
 have R3:RInv st0 S3 T kvs b rf ds:=by
  have:=((R.grow (strsO d.ns :: g)).grow [intsO d.tb]).grow [.list []]
  exact this
 have jo:=join_ok (sep:="") (ts:=d.ns) (m:=100) X.small (Nat.le_trans (Nat.mul_le_mul_right _ X.few) (by decide))
 have big:∀ n,n≤1000→n < 2 ^ 24:=fun n h=>Nat.lt_of_le_of_lt h (by decide)
 have front:∀ (S':St),(∀ pm cd L,TS1 w ad (r + 11) (rdEnv pm cd L a) ((("tables":Str),V.ref S1.length) :: (([(("value":Str),V.str d.v)]++[(("names":Str),.ref S.length)])++([(("place":Str),V.int (ds.length:Nat))]++rdLoc b rf rw))) S2 ((forB (sIn 31 1)).getD 2 (.Pass default)) none ((("tables":Str),V.ref S1.length) :: (([(("value":Str),V.str d.v)]++[(("names":Str),.ref S.length)])++([(("place":Str),V.int (ds.length:Nat))]++rdLoc b rf rw))) S') →
   ∀ pm cd L,THS w ad (r + 11) (rdEnv pm cd L a) ([(("place":Str),V.int (ds.length:Nat))]++rdLoc b rf rw) S (forB (sIn 31 1)) none (rdLoc b rf rw) S':=fun S' K pm cd L=>by
  refine THS.sub (loc₁:=((("tables":Str),V.ref S1.length) :: (([(("value":Str),V.str d.v)]++[(("names":Str),.ref S.length)])++([(("place":Str),V.int (ds.length:Nat))]++rdLoc b rf rw)))) ?_ (sub_skip (sub_skip (sub_skip (sub_skip (fun _ _ h=>h) rfl) rfl) rfl) rfl)
  refine THS1.cons (THS1.assignTup (THE.callG hpe rfl (TL.cons (ns rfl) (TE.sub (TE.name rfl (.inl rfl)) (TE.name rfl (.inl rfl)) (SubOk.listN hrS (by exact Nat.lt_of_lt_of_le ‹_› (by decide)) hx)) TL.nil) CP) (TT.tup2 (TT.name (.inl rfl) (nc rfl)) (TT.name (.inl rfl) (nc rfl)))) ?_
  refine THS1.cons (TS1.h (TS1.assign (TE.callG hfb rfl (TL.cons (ns rfl) (TE.meth TE.cstr (TM.str F.slot_str_join F.type_str_join) Keeps1.builtin (TL.cons (ns rfl) (TE.name rfl (.inl rfl)) TL.nil) (TO.join (ts:=d.ns) hn1 jo.1 jo.2)) TL.nil) (TC.forbidden (r:=r + 6) G hfb X.tot)) (.inl rfl) (nc rfl))) ?_
  rw [← X.tb]
  exact THS1.cons (TS1.h (K pm cd L)) THS.nil
 have cond:∀ (pm cd:Value) (L:Addr) (bl:Bool),(d.tb == [])=bl→TB w ad (r + 11) (rdEnv pm cd L a) ((("tables":Str),V.ref S1.length) :: (([(("value":Str),V.str d.v)]++[(("names":Str),.ref S.length)])++([(("place":Str),V.int (ds.length:Nat))]++rdLoc b rf rw))) S2 (isTrue (ifT ((forB (sIn 31 1)).getD 2 (.Pass default))) (rdEnv pm cd L a) (eval (ifT ((forB (sIn 31 1)).getD 2 (.Pass default))) (rdEnv pm cd L a))) bl S3:=fun pm cd L bl h =>
  TB.val (TB.cmp (TE.name rfl (.inl rfl)) (TE.list TL.nil (Nat.zero_le _)) (TO2.eqInts (l:=d.tb) (k:=[]) ht3 he3)) h
 by_cases htb:d.tb=[]
 ·have hzz:T.length + d.ns.length≤2 ^ 20:=by
   have:=R.tsz
   have:=X.few
   omega
  have hnT:∀ q∈T,S.length≠q.2 + 1:=fun q hq e=>by have:=R.tree.lt hq;omega
  refine xEEEAAAAA (TC.down (r:=r) (a:=da) (w:=w) (ad:=ad) G hdn R3.tree (fun _=>rfl) R3.root hheads hzz hn3 hnT) fun S4 T' b' C H' hm' hmap D hTl=>?_
  have RR:=R3.good htb X.few H' hm' hmap D hTl
  refine ⟨_,_,_,RR,front _ fun pm cd L=>?_⟩
  refine xAA (H'.at_ _ hm') fun a1 a2 a3=>?_
  dsimp only at a1 a2 a3
  have e4:strsO (valF (entsF ds) d.ns++[d.v])=.list ((valF (entsF ds) d.ns).map V.str++[V.str d.v]):=by exact congrArg MObj.list List.map_append
  rw [e4]
  refine TS1.ifT (cond pm cd L true (by rw [htb];rfl)) (TS1.cons (TS1.appendAt (D:=b') (TE.part (r:=r + 9) (a:=.ref b') (b:=.ref (b' + 1)) false G.plain (TE.callG hdn rfl (TL.cons (ns rfl) (TE.name rfl (.inl rfl)) (TL.cons (ns rfl) (TE.name rfl (.inl rfl)) TL.nil)) C) a3 rfl (nl rfl)) (TE.name rfl (.inl rfl)) a1 a1 (by rw [List.length_map];exact big _ (Nat.le_trans (hvz _) (by exact Nat.le_of_lt ‹_›))) (ns rfl)) TS.nil)
 ·have h0:=X.nz htb
  have ht0:(d.tb.map V.int)[(0:Int).toNat]?=some (.int (d.tb.headD 0)):=by
   cases hd:d.tb with
   | nil=>exact absurd hd htb
   | cons t ts=>rfl
  have cnd:=fun pm cd L=>cond pm cd L false (by
   cases hd:d.tb with
   | nil=>exact absurd hd htb
   | cons t ts=>rfl)
  have key:∀ (pm cd:Value) (L:Addr),TE w ad (r + 11) (rdEnv pm cd L a) ((("tables":Str),V.ref S1.length) :: (([(("value":Str),V.str d.v)]++[(("names":Str),.ref S.length)])++([(("place":Str),V.int (ds.length:Nat))]++rdLoc b rf rw))) S3 (.Subscript (.Name "tables" ⟨181,20,181,26⟩) (.Constant (.int 0) 0 ⟨181,27,181,28⟩) ⟨181,20,181,29⟩) (.int (d.tb.headD 0)) S3:=fun pm cd L =>
   TE.sub (TE.name rfl (.inl rfl)) TE.int (SubOk.list ht3 (by decide) (by decide) ht0 (by intro _ _;rfl))
  cases hv:vAt kvs (d.tb.headD 0) with
  | some v =>
   refine xEA (R3.refs _ _ hv) fun k q'1 r'2=>?_;subst q'1;refine xAA r'2 fun hk _ _=>?_
   have RR:=R3.hit htb h0 hv
   refine ⟨_,_,_,RR,front _ fun pm cd L=>?_⟩
   have e4:intsO (placesF (tabsF ds) (d.tb.headD 0)++[(ds.length:Int)])=.list ((placesF (tabsF ds) (d.tb.headD 0)).map V.int++[V.int (ds.length:Nat)]):=by exact congrArg MObj.list List.map_append
   rw [e4]
   exact TS1.ifF (cnd pm cd L) (TS1.cons (TS1.appendAt (D:=k) (TE.sub (TE.name rfl (.inl rfl)) (key pm cd L) (SubOk.hit kiInt R3.fdd hv (by intro _ _;rfl))) (TE.name rfl (.inl rfl)) hk hk (by rw [List.length_map];exact big _ (Nat.le_trans (hplz _) (by exact Nat.le_of_lt ‹_›))) (ns rfl)) TS.nil)
  | none =>
   have RR:=R3.miss htb h0 hv
   refine ⟨_,_,_,RR,front _ fun pm cd L=>?_⟩
   have rl3:=(List.getElem?_eq_some_iff.mp R3.fdd).1
   have hk:((S3++[MObj.list []]).set rf (.fdd false (onV V.int (kvs++[(d.tb.headD 0,.ref S3.length)])) none))[S3.length]?=some (.list []):=by
    rw [List.getElem?_set_ne (by exact neL ‹_›)];exact at0
   exact TS1.ifF (cnd pm cd L) (TS1.cons (TS1.appendAt (D:=S3.length) (l:=[]) (TE.sub (TE.name rfl (.inl rfl)) (key pm cd L) (SubOk.miss (r:=r + 6) kiInt G.hide R3.fdd hv (TFac.list (r:=r + 5)) (get_left _ R3.fdd) hkz (by intro _ _;rfl))) (TE.name rfl (.inl rfl)) hk hk (by decide) (ns rfl)) TS.nil)
theorem placesF_len (ts:List Int) (t:Int):(placesF ts t).length≤ts.length:=by
 unfold placesF
 rw [List.length_map]
 exact Nat.le_trans (List.length_filter_le ..) (Nat.le_of_eq (List.length_range ..))
theorem entsF_len (ds:List RowD):(entsF ds).length≤ds.length:=List.length_filterMap_le ..
theorem valF_len (E:List (List Str × Str)) (P:List Str):(valF E P).length≤E.length:=by
 unfold valF;rw [List.length_map];exact List.length_filter_le ..
theorem addH_old:∀ (xs:List Str) (H:List (List Str)) (P Q:List Str),Q∈H→Q∈addH H P xs
 | [],_,_,_,h=>h
 | x :: xs,H,P,Q,h=>by
  unfold addH
  refine addH_old xs _ _ Q ?_
  split
  ·exact h
  ·exact List.mem_append_left _ h
theorem addH_last:∀ (xs:List Str) (H:List (List Str)) (P:List Str),P∈H→P++xs∈addH H P xs
 | [],_,_,h=>by simpa [addH] using h
 | x :: xs,H,P,_=>by
  unfold addH
  have:=addH_last xs (if P++[x]∈H then H else H++[P++[x]]) (P++[x]) (by
   split
   ·assumption
   ·exact snocMem)
  simpa using this
theorem foldH_old (E:List (List Str × Str)):∀ (H:List (List Str)) (Q:List Str),Q∈H→Q∈E.foldl (fun H d=>addH H [] d.1) H:=by
 induction E with
 | nil=>intro H Q h;exact h
 | cons d E ih=>intro H Q h;exact ih _ Q (addH_old _ _ _ Q h)
theorem foldH_new (E:List (List Str × Str)):∀ (H:List (List Str)),[]∈H→∀ d∈E,d.1∈E.foldl (fun H d=>addH H [] d.1) H:=by
 induction E with
 | nil=>intro H _ d hd;cases hd
 | cons e E ih =>
  intro H hH d hd
  rw [List.foldl_cons]
  rcases List.mem_cons.mp hd with rfl | hd
  ·exact foldH_old E _ _ (by simpa using addH_last d.1 H [] hH)
  ·exact ih _ (addH_old _ _ _ _ hH) d hd
theorem heads_new {E:List (List Str × Str)}:∀ d∈E,d.1∈headsF E:=foldH_new E _ (by exact .head _)
theorem val_none {E:List (List Str × Str)} {Q:List Str} (h:Q∉headsF E):valF E Q=[]:=by
 unfold valF
 rw [List.filter_eq_nil_iff.mpr fun d hd e=>h (by
  have:=heads_new d hd
  rw [← show d.1=Q by simpa using e];exact this)]
 rfl
theorem firstsT_len:∀ (ts fs:List Int),(ts.foldl (fun fs t=>if t != 0 && !fs.contains t then fs++[t] else fs) fs).length≤fs.length + ts.length
 | [],fs=>by exact Nat.le_refl _
 | t :: ts,fs=>by
  have:=firstsT_len ts (if t != 0 && !fs.contains t then fs++[t] else fs)
  rw [List.foldl_cons]
  have h2:(if t != 0 && !fs.contains t then fs++[t] else fs).length≤fs.length + 1:=by split <;> simp
  simp only [List.length_cons]
  omega
theorem read_loop {a:Addr} {rw:Nat} {l0:List V} (G:Globs w ad) (hrw:st0[rw]?=some (.list l0)):∀ (xs:List (Str × RowD)) (ds:List RowD) (S:St) (T:Tab) (kvs:List (Int × V)),RInv st0 S T kvs b rf ds→(∀ p∈xs,ReadsAs p.1 p.2)→(∀ i,i < xs.length→l0[ds.length + i]?=(xs[i]?).map fun p=>V.str p.1)→ds.length + xs.length≤1000 →
  ∃ S' T' kvs',RInv st0 S' T' kvs' b rf (ds++xs.map (·.2))∧(∀ pm cd L,LoopR (TurnH w ad (r + 11) (rdEnv pm cd L a) (forT (sIn 31 1)) (forB (sIn 31 1))) (fun _=>True) ((List.range' ds.length xs.length).map fun (i:Nat)=>V.int (i:Int)) (rdLoc b rf rw) S none (rdLoc b rf rw) S'):=by
 intro xs
 induction xs with
 | nil =>
  intro ds S T kvs R _ _ _
  exact ⟨S,T,kvs,by simpa using R,fun pm cd L=>.nil trivial⟩
 | cons p xs ih =>
  intro ds S T kvs R hX hl hz
  simp only [List.length_cons] at hz
  have hkl:kvs.length≤2 ^ 20:=by
   have h1:=firstsT_len (tabsF ds) []
   have h2:(kvs.map (·.1)).length=(firstsT (tabsF ds)).length:=by rw [R.keys]
   rw [List.length_map] at h2
   unfold firstsT at h2
   rw [tabsF_len] at h1
   simp only [List.length_nil,Nat.zero_add] at h1
   omega
  refine xEEEA (read_turn (w:=w) (ad:=ad) (r:=r) (a:=a) (x:=p.1) (d:=p.2) G R (hX p (.head _)) hrw (by have:=hl 0 (by simp);assumption) (by omega) hkl (fun t=>by rw [← tabsF_len ds];exact placesF_len _ _) (fun P=>Nat.le_trans (valF_len _ _) (entsF_len ds)) (fun Q hQ=>val_none (by
   rw [← R.heads]
   intro hm
   obtain ⟨q,hq,e⟩:=List.mem_map.mp hm
   exact hQ q hq e))) fun S1 T1 kvs1 R1 K1=>?_
  refine xEEEA (ih (ds++[p.2]) S1 T1 kvs1 R1 (fun q hq=>hX q (.tail _ hq)) (fun i hi=>by
   have:=hl (i + 1) (by simp;omega)
   rw [List.length_append,List.length_singleton,show ds.length + 1 + i=ds.length + (i + 1) by omega]
   simpa using this) (by rw [List.length_append,List.length_singleton];omega)) fun S2 T2 kvs2 R2 K2=>?_
  refine ⟨S2,T2,kvs2,by simpa using R2,fun pm cd L=>?_⟩
  rw [List.length_cons,List.range'_succ,List.map_cons]
  have k2:=K2 pm cd L
  rw [List.length_append,List.length_singleton] at k2
  exact .cons trivial ⟨_,TT.name (.inl rfl) (nc rfl),K1 pm cd L⟩ k2
theorem RInv.start (st:St):RInv st (newNode st++[.fdd false [] none]) [([],st.length)] [] st.length (st.length + 3) []:=by
 refine ⟨fun i hi=>?_,?_,⟨fun q hq=>?_,?_,?_,?_⟩,.head _,rfl,fun q hq=>?_,?_,Nat.le_add_right _ _,rfl,nofun,nofun,fun _ _ _=>rfl,Nat.le_refl _⟩
 ·rw [List.getElem?_append_left (by rw [newNode_len];exact ltA ‹_›)];exact newNode_get st hi
 ·rw [List.length_append,newNode_len];omega
 ·rw [List.mem_singleton.mp hq]
  refine ⟨?_,?_,?_⟩ <;> simp [newNode,strsO,valF,entsF,kids,kidOf,onV]
 ·simp
 ·intro x hx y hy h
  rw [List.mem_singleton.mp hx,List.mem_singleton.mp hy] at h
  exact absurd rfl h
 ·intro q hq h
  rw [List.mem_singleton.mp hq] at h
  exact absurd rfl h
 ·rw [List.mem_singleton.mp hq];exact Nat.le_refl _
 ·have:st.length + 3=(newNode st).length:=(newNode_len st).symm
  rw [this];exact at0
theorem read_fd (G:Globs w ad):∃ a pm,ad.mg ("_law_read":Str)=some (.ref a)∧FnAt ad "_law_read" 31 a∧FnFd ad a (fdAt 31 "_law_read" pm (.ref ad.codeR)):=by
 refine xEA G.read fun a hf r'1=>?_;refine xEEA r'1 fun o pm ho hd=>?_
 refine ⟨a,pm,hf.1,hf,?_⟩
 refine xEE hf.fd fun pm' cd' h=>?_
 refine xAEEAAAA h fun hat o' c ho' hd' hcode hct hrec=>?_
 rw [ho] at ho'
 cases ho'
 have e:fdAt 31 "_law_read" pm (.ref ad.codeR)=fdAt 31 "_law_read" pm' cd':=by
  have:=hd.symm.trans hd'
  injection this
 rw [e]
 exact ⟨hat,o,c,ho,hd',hcode,hct,hrec⟩
structure ReadDone (st st':St) (T:Tab) (b rf cl:Nat) (kvs:List (Int × V)) (ds:List RowD):Prop where
 low:∀ i,i < st.length→st'[i]?=st[i]?
 len:st.length≤st'.length
 tree:Tree st' T (valF (entsF ds)) (fun _=>none)
 root:([],b)∈T
 heads:T.map (·.1)=headsF (entsF ds)
 tlow:∀ q∈T,st.length≤q.2
 ref:RefAt st' rf cl kvs (tabsF ds)
 keys:kvs.map (·.1)=firstsT (tabsF ds)
 tsz:T.length≤1 + 1000 * ds.length
 rlow:st.length≤rf
theorem RInv.done (R:RInv st0 S T kvs b rf ds):ReadDone st0 ((S++[MObj.cel rf]).set rf (.fdd false (onV V.int kvs) (some S.length))) T b rf S.length kvs ds:=by
 have rl:=(List.getElem?_eq_some_iff.mp R.fdd).1
 have get4:∀ i,i < S.length→i≠rf→((S++[MObj.cel rf]).set rf (.fdd false (onV V.int kvs) (some S.length)))[i]?=S[i]?:=fun i hi hn=>by
  rw [List.getElem?_set_ne (Ne.symm hn),List.getElem?_append_left hi]
 refine ⟨fun i hi=>?_,?_,?_,R.root,R.heads,R.tlow,⟨?_,?_,fun t v h=>?_,R.none_⟩,R.keys,R.tsz,R.rlow⟩
 ·have:=R.rlow
  rw [get4 i (Nat.lt_of_lt_of_le hi R.len) (by omega)];exact R.low i hi
 ·rw [List.length_set,List.length_append];exact Nat.le_trans R.len (Nat.le_add_right _ _)
 ·exact R.tree.same fun q hq k hk=>get4 _ (by have:=R.tree.lt hq;omega) fun e=>R.rfOff ⟨q,hq,k,hk,e.symm⟩
 ·rw [List.getElem?_set_self (by simp;exact ltS ‹_›)]
 ·rw [List.getElem?_set_ne (by exact neL ‹_›)];exact at0
 ·refine xEAAA (R.refs t v h) fun k e hk _ _=>?_
  refine ⟨k,e,?_⟩
  rw [get4 k (List.getElem?_eq_some_iff.mp hk).1 fun e2=>by have:=R.fdd;rw [← e2,hk] at this;cases this]
  exact hk
theorem TCH.read {rw:Nat} {xs:List (Str × RowD)} (G:Globs w ad) (hrw:st[rw]?=some (.list (xs.map fun p=>V.str p.1))) (hX:∀ p∈xs,ReadsAs p.1 p.2) (hz:xs.length≤1000) :
  ∃ a st' T b rf cl kvs,FnAt ad "_law_read" 31 a∧TCH w ad (r + 12) a st [.ref rw] (.tup2 (.ref (b + 2)) (.ref rf)) st'∧ReadDone st st' T b rf cl kvs (xs.map (·.2)):=by
 refine xEEAA (read_fd G) fun a pm _ hf hfd=>?_
 refine xEEEA (read_loop (w:=w) (ad:=ad) (r:=r) (a:=a) G hrw xs [] _ _ _ (RInv.start st) hX (fun i _=>by simp) (by simpa using hz)) fun S' T' kvs' R' K=>?_
 rw [List.nil_append] at R'
 refine ⟨a,_,T',st.length,st.length + 3,S'.length,kvs',hf,?_,R'.done⟩
 refine TCH.fdo (ps:=["rows"]) hfd rfl rfl rfl rfl (fun ys hy A E s Q _=>?_) (by decide) rfl (by show ∀ x∈[("rows":Str)],(fScope (stAt 31)).names.lookup x=some .local∨(fScope (stAt 31)).names.lookup x=some .cell;decide) (by show ((cellsFrom 0 (fScope (stAt 31)).names []).map (·.1)).Nodup;decide) (fun L=>?_) rfl rfl rfl
 ·refine len1 (fun y q=>?_) ys hy
  ·rw [show bindArgs (fdAt 31 "_law_read" pm (.ref ad.codeR)) ⟨[y],[]⟩=pure _ from rfl]
   exact wpAny_pure q
 ·refine THR.o ?_
  have hrw0:(newNode st++[MObj.fdd false [] none])[rw]?=some (.list (xs.map fun p=>V.str p.1)):=((RInv.start st).low rw (List.getElem?_eq_some_iff.mp hrw).1).trans hrw
  refine THR.cons (TS1.h (TS1.assignSwap2 (x:="root") (y:="refused") (a:=.ref (st.length + 2)) (b:=.ref (st.length + 3)) (TE.tup2 (TL.cons (ns rfl) (TE.callG0 G.node rfl (TC.node (r:=r + 6) G.toNames)) (TL.cons (ns rfl) (TE.val (TE.fddLam G.tab G.fdd rfl rfl rfl (by show ("_law_read":Str)++".<locals>."++"<lambda>"=qualR;decide)) (by rw [newNode_len])) TL.nil))) rfl rfl)) ?_
  have k:=K pm (.ref ad.codeR) L
  have z0:([]:List RowD).length=0:=rfl
  rw [z0,← List.range_eq_range',← fromLo0] at k
  refine THR.cons (t:=sIn 31 1) (THS1.for (vals:=fromLo 0 xs.length) (TX.range1 G.range rfl (ns rfl) (TE.val (TE.callB (by rfl) G.len (by decide) rfl (TL.cons (ns rfl) (TE.name rfl (.inl rfl)) TL.nil) (TO.len hrw0 (by rw [List.length_map];exact Nat.lt_of_le_of_lt hz (by decide)))) (by rw [List.length_map])) (Int.lt_of_le_of_lt (Int.ofNat_le.mpr hz) (by decide))) k (.inl ⟨rfl,_,_,rfl⟩)) ?_
  refine THR.cons (TS1.h (TS1.expr (TE.meth0 (TE.name rfl (.inl rfl)) (TM.freeze R'.fdd) (Keeps1.of (by kernel_rfl)) (TC.freeze (r:=r + 10) G.tab R'.fdd)))) ?_
  exact TR.h (TR.ret (TE.tup2 (TL.cons (ns rfl) (TE.name rfl (.inl rfl)) (TL.cons (ns rfl) (TE.name rfl (.inl rfl)) TL.nil))))
end Mine
namespace Mine
open PySem PySem.W PySem.Calls PyProof.Rows PySem.Builtin PySem.Builtin.Str
variable {w : World} {ad : Adr} {r : Nat} {st st₁ st₂ st₃ S : St} {env : Env} {loc loc₁ loc₂ loc₃ : Loc}
noncomputable abbrev lawEnv (pm cd:Value) (L a:Addr):Env:=frameEnv 38 "law" pm cd L a
noncomputable def RowIs (S:St) (v:V) (d:Nat × Nat):Prop:=∃ p,v=.tup4 (.str (rowText d.2 d.1)) (.ref p) (.str (rowVal d.2)) (.int (rowTable d.2))∧S[p]?=some (strsO (rowPath d.2))
theorem RowIs.grow {v:V} {d:Nat × Nat} (g:St) (h:RowIs S v d):RowIs (S++g) v d:=let ⟨p,e,h⟩:=h;⟨p,e,get_left _ h⟩
noncomputable def numX (N:List Int) (k:Nat):Nat:=((N.getD k 0).fmod 100000000).toNat
theorem numX_lt (N:List Int) (k:Nat):numX N k < 100000000:=by
 unfold numX
 have h1:=Int.fmod_lt_of_pos (N.getD k 0) (show (0:Int) < 100000000 by decide)
 have h2:=Int.fmod_nonneg_of_pos (N.getD k 0) (show (0:Int) < 100000000 by decide)
 omega
theorem numX_eq (N:List Int) (k:Nat):(N.getD k 0).fmod 100000000=((numX N k:Nat):Int):=by
 unfold numX
 have h2:=Int.fmod_nonneg_of_pos (N.getD k 0) (show (0:Int) < 100000000 by decide)
 omega
theorem law_rows {a ra:Addr} {nl sp:Nat} {N:List Int} (G:Globs w ad) (hra:FnAt ad "_law_row" 24 ra) (hN:N.length < 2 ^ 20):∀ (m i:Nat) (S:St),i + m=N.length→S[nl]?=some (intsO N)→SpellAt S sp →
  ∃ us g,(∀ (pm cd:Value) (L C:Addr),CompR (CTurn w ad (r + 4) (compEnvC (cScope (asgV (sIn 38 2))) [(("spellings":Str),L + 2),(("numbers":Str),L + 1)] C (lawEnv pm cd L a)) [(("numbers":Str),.ref nl),(("spellings":Str),.ref sp)] (cGen (asgV (sIn 38 2))).target (cGen (asgV (sIn 38 2))).ifs (cElt (asgV (sIn 38 2)))) (fun _=>True) ((List.range' i m).map fun (i:Nat)=>V.int (i:Int)) S us (S++g)) ∧
   All2 (RowIs (S++g)) us ((List.range' i m).map fun k=>(k,numX N k)):=by
 intro m
 induction m with
 | zero=>intro i S _ _ _;exact ⟨[],[],fun pm cd L C=>by rw [List.append_nil];exact .nil trivial,.nil⟩
 | succ m ih =>
  intro i S hi hn hsp
  have hil:i < N.length:=by omega
  have hx:=numX_lt N i
  refine xEEA (TC.row (r:=r) (w:=w) (ad:=ad) (x:=numX N i) (place:=i) G hra hsp (by exact Nat.lt_trans ‹_› ‹_›) (by have:(2:Nat) ^ 40=1099511627776:=(by decide);exact Nat.lt_of_lt_of_le ‹_› (by decide))) fun g1 p C1 hp=>?_
  refine xEEA (ih (i + 1) (S++g1) (by omega) (get_left _ hn) (hsp.grow g1)) fun us g2 K hus=>?_
  refine ⟨.tup4 (.str (rowText (numX N i) i)) (.ref p) (.str (rowVal (numX N i))) (.int (rowTable (numX N i))) :: us,g1++g2,fun pm cd L C=>?_,?_⟩
  ·rw [List.range'_succ,List.map_cons,← List.append_assoc]
   refine .take trivial ⟨_,S,TT.name (.inl rfl) (nc rfl),?_,TF.nil,?_⟩ (K pm cd L C)
   ·intro u q e
    rcases List.mem_cons.mp (mem_lookup e) with h | h
    ·cases h;rfl
    ·cases List.mem_singleton.mp h;rfl
   ·refine TE.callG hra rfl (TL.cons (ns rfl) (TE.val (TE.bin (TE.sub (TE.name rfl (.inr (.inl rfl))) (TE.name rfl (.inl rfl)) (SubOk.listN hn (by omega) (getD_mapI hil))) TE.int (TO2.mod (by decide))) (v:=.int ((numX N i:Nat):Int)) ?v) (TL.cons (ns rfl) (TE.name rfl (.inl rfl)) (TL.cons (ns rfl) (TE.name rfl (.inr (.inl rfl))) TL.nil))) C1
    case v=>rw [← numX_eq]
  ·rw [List.range'_succ,List.map_cons,← List.append_assoc]
   exact .cons ⟨p,rfl,get_left _ hp⟩ hus
noncomputable def goodF (D:List (Nat × Nat)):List (List Str × Str):=D.filterMap fun d=>if rowTable d.2=0 then some (rowPath d.2,rowVal d.2) else none
theorem law_entries {a:Addr} {Ok:St→Prop} (ho:Ok S):∀ {l:List V} {D:List (Nat × Nat)},All2 (RowIs S) l D →
  ∃ us,(∀ (pm cd:Value) (L C:Addr),CompR (CTurn w ad (r + 1) (compEnvC (cScope (asgV (sIn 38 3))) [] C (lawEnv pm cd L a)) [] (cGen (asgV (sIn 38 3))).target (cGen (asgV (sIn 38 3))).ifs (cElt (asgV (sIn 38 3)))) Ok l S us S)∧PairsAt S us (goodF D):=by
 intro l D h
 induction h with
 | nil=>exact ⟨[],fun _ _ _ _=>.nil ho,.nil⟩
 | @cons v d l D hd hl ih =>
  refine xEA ih fun us K hus=>?_
  refine xEA hd fun p q'1 hp=>?_;try clear hd;subst q'1
  have tt:∀ (pm cd:Value) (L C:Addr),TT w ad (r + 1) (compEnvC (cScope (asgV (sIn 38 3))) [] C (lawEnv pm cd L a)) (cGen (asgV (sIn 38 3))).target (.tup4 (.str (rowText d.2 d.1)) (.ref p) (.str (rowVal d.2)) (.int (rowTable d.2))) ([(("table":Str),.int (rowTable d.2))]++([(("value":Str),.str (rowVal d.2))]++([(("path":Str),.ref p)]++[(("text":Str),.str (rowText d.2 d.1))]))) :=
   fun pm cd L C=>TT.tup4 (TT.name (.inl rfl) (nc rfl)) (TT.name (.inl rfl) (nc rfl)) (TT.name (.inl rfl) (nc rfl)) (TT.name (.inl rfl) (nc rfl))
  by_cases hc:rowTable d.2=0
  ·refine ⟨.tup2 (.ref p) (.str (rowVal d.2)) :: us,fun pm cd L C=>.take ho ⟨_,S,tt pm cd L C,nk,TF.one (TB.val (TB.cmp (TE.name rfl (.inl rfl)) TE.int TO2.eq) (beq_iff_eq.mpr hc)),TE.tup2 (TL.cons (ns rfl) (TE.name rfl (.inl rfl)) (TL.cons (ns rfl) (TE.name rfl (.inl rfl)) TL.nil))⟩ (K pm cd L C),?_⟩
   have e:goodF (d :: D)=(rowPath d.2,rowVal d.2) :: goodF D:=by simp [goodF,hc]
   rw [e]
   exact .cons ⟨p,rfl,hp⟩ hus
  ·refine ⟨us,fun pm cd L C=>.skip ho ⟨_,S,tt pm cd L C,nk,TF.one (TB.val (TB.cmp (TE.name rfl (.inl rfl)) TE.int TO2.eq) (beq_eq_false_iff_ne.mpr hc)),rfl⟩ (K pm cd L C),?_⟩
   have e:goodF (d :: D)=goodF D:=by simp [goodF,hc]
   rw [e]
   exact hus
theorem TE.and2 {e₁ e₂:Expr} {pos:Pos} {v:V} (T:TE w ad r env loc st e₁ (.bool true) st₁) (K:TE w ad r env loc st₁ e₂ v st₂):TE w ad r env loc st (.BoolOp .And [e₁,e₂] pos) v st₂:=by
 intro A E s μ Q hA S F h
 refine BoolOp_and (T A E s μ _ hA S F fun mv h₁ tk₁ μ₁ t₁ S₁ F₁ rv=>?_)
 cases rv
 refine wpAny_truthy_bool ?_
 rw [if_pos rfl]
 exact BoolOp_one (K A E _ μ₁ _ hA S₁ F₁ fun mv h' tk μ' t' S' F' rv=>h mv h' tk μ' (t₁.trans0 t') S' F' rv)
noncomputable abbrev pairD (d:List Str × Str):PyData:=.tuple [PS d.1,.str d.2]
theorem deep_pairs {l:List V} {D:List (List Str × Str)} (x:PairsAt st l D):DeepAll st l (D.map pairD):=by
 induction x with
 | nil=>exact .nil
 | cons q _ ih=>refine xEA q fun n q'1 h=>?_;try clear q;subst q'1;exact .cons (.tup2 (Deep.path h) (.str _)) ih
theorem can_pairs:∀ {D:List (List Str × Str)},EOk D→PyData.canLayAll0 (D.map pairD)=true
 | [],_=>by rfl
 | d :: D,h=>by
  have h1:=can_path (h d (.head _)).1
  have h2:PyData.strOk d.2=true:=(h d (.head _)).2
  have h3:=can_pairs fun y hy=>h y (.tail _ hy)
  simp only [List.map_cons,PyData.canLayAll0,PyData.canLay0,h2,h3,Bool.and_self]
  simpa [PyData.canLay0] using h1
theorem depth_pairs:∀ {D:List (List Str × Str)},PyData.depthAll (D.map pairD)≤2
 | []=>by exact Nat.zero_le _
 | d :: D=>by
  have h:=depth_pairs (D:=D)
  have h1:=depth_path (P:=d.1)
  simp only [List.map_cons,PyData.depthAll,PyData.depth] at h h1 ⊢
  omega
theorem eqv_self {d:PyData} (h:d.canLay0=true):PyData.eqv d d=true:=SeqAt.eqv_refl d h
theorem TO2.nePairs {n m:Nat} {l k:List V} {D:List (List Str × Str)} (hn:st[n]?=some (.list l)) (hm:st[m]?=some (.list k)) (h1:PairsAt st l D) (h2:PairsAt st k D) (hD:EOk D):TO2 w ad r st (compareOp .NotEq) (.ref n) (.ref m) (.bool false) st:=by
 have hc:(PyData.list (D.map pairD)).canLay0=true:=by simp only [PyData.canLay0];exact can_pairs hD
 exact TO2.val (TO2.neDeep (.list hn (deep_pairs h1)) (.list hm (deep_pairs h2)) hc hc (by simp only [PyData.depth];have:=depth_pairs (D:=D);exact Nat.lt_of_le_of_lt ‹_› (by decide))) (by rw [eqv_self hc];rfl)
theorem TO2.eqPairs {n m:Nat} {l k:List V} {D:List (List Str × Str)} (hn:st[n]?=some (.list l)) (hm:st[m]?=some (.list k)) (h1:PairsAt st l D) (h2:PairsAt st k D) (hD:EOk D):TO2 w ad r st (compareOp .Eq) (.ref n) (.ref m) (.bool true) st:=by
 have hc:(PyData.list (D.map pairD)).canLay0=true:=by simp only [PyData.canLay0];exact can_pairs hD
 exact TO2.val (TO2.eqDeep (.list hn (deep_pairs h1)) (.list hm (deep_pairs h2)) hc hc (by simp only [PyData.depth];have:=depth_pairs (D:=D);exact Nat.lt_of_le_of_lt ‹_› (by decide))) (by rw [eqv_self hc])
theorem law_texts {a:Addr} {Ok:St→Prop} (ho:Ok S):∀ {l:List V} {D:List (Nat × Nat)},All2 (RowIs S) l D→∀ (pm cd:Value) (L C:Addr),
  CompR (CTurn w ad (r + 1) (compEnvC (cScope ((eArgs (asgV (sIn 38 5))).headD default)) [] C (lawEnv pm cd L a)) [] (cGen ((eArgs (asgV (sIn 38 5))).headD default)).target (cGen ((eArgs (asgV (sIn 38 5))).headD default)).ifs (cElt ((eArgs (asgV (sIn 38 5))).headD default))) Ok l S (D.map fun d=>V.str (rowText d.2 d.1)) S:=by
 intro l D h
 induction h with
 | nil=>intro _ _ _ _;exact .nil ho
 | @cons v d l D hd hl ih =>
  intro pm cd L C
  refine xEA hd fun p q'1 hp=>?_;try clear hd;subst q'1
  exact .take ho ⟨_,S,TT.tup4 (TT.name (.inl rfl) (nc rfl)) (TT.name (.inl rfl) (nc rfl)) (TT.name (.inl rfl) (nc rfl)) (TT.name (.inl rfl) (nc rfl)),nk,TF.nil,TE.name rfl (.inl rfl)⟩ (ih pm cd L C)
theorem law_joined {a:Addr} {t:Nat} {l0:List V}:∀ {l:List V} {D:List (List Str × Str)} (S:St),PairsAt S l D→(∀ d∈D,d.1.length≤100∧(∀ x∈d.1,x.length≤100)∧d.2.length≤100)→S[t]?=some (.list l0) →
  ∃ g,∀ (pm cd:Value) (L C:Addr),CompR (CTurn w ad (r + 1) (compEnvC (cScope ((eArgs (asgV (sIn 38 9))).headD default)) [] C (lawEnv pm cd L a)) [] (cGen ((eArgs (asgV (sIn 38 9))).headD default)).target (cGen ((eArgs (asgV (sIn 38 9))).headD default)).ifs (cElt ((eArgs (asgV (sIn 38 9))).headD default))) (fun s=>s[t]?=some (.list l0)) l S (D.map fun d=>V.str (glued "=" (d.1++[d.2]))) (S++g):=by
 intro l
 induction l with
 | nil =>
  intro D S h _ ht
  cases h
  exact ⟨[],fun pm cd L C=>by rw [List.append_nil];exact .nil ht⟩
 | cons v l ih =>
  intro D0 S h hb ht
  cases h with | cons hd hl =>
  rename_i d D
  refine xEA hd fun n q'1 hn=>?_;try clear hd;subst q'1
  refine xAA (hb d (.head _)) fun b1 b2 b3=>?_
  have jo:=join_ok (sep:="=") (ts:=d.1++[d.2]) (m:=100) (fun x hx=>by
   rcases List.mem_append.mp hx with h | h
   ·exact b2 x h
   ·rw [List.mem_singleton.mp h];exact b3) (by
   have e1:(d.1++[d.2]).length≤101:=by simp;omega
   have e2:(Str.ofString "=").length=1:=rfl
   rw [e2]
   exact Nat.le_trans (Nat.mul_le_mul_right _ e1) (by decide))
  let S2:St:=(S++[MObj.list [V.str d.2]])++[MObj.list (d.1.map V.str++[V.str d.2])]
  have hS2:S2[(S++[MObj.list [V.str d.2]]).length]?=some (.list ((d.1++[d.2]).map V.str)):=by
   show ((S++[MObj.list [V.str d.2]])++[MObj.list (d.1.map V.str++[V.str d.2])])[(S++[MObj.list [V.str d.2]]).length]?=_
   simp
  have eS2:S2=S++[MObj.list [V.str d.2],MObj.list (d.1.map V.str++[V.str d.2])]:=by
   show (S++[MObj.list [V.str d.2]])++[MObj.list (d.1.map V.str++[V.str d.2])]=_
   exact List.append_assoc ..
  refine xE (ih S2 (by rw [eS2];exact hl.imp fun _ _ h=>h.grow _) (fun x hx=>hb x (.tail _ hx)) (get_left _ (get_left _ ht))) fun g K=>?_
  refine ⟨[MObj.list [V.str d.2],MObj.list (d.1.map V.str++[V.str d.2])]++g,fun pm cd L C=>?_⟩
  rw [← List.append_assoc,← eS2,List.map_cons]
  refine .take ht ⟨_,S,TT.tup2 (TT.name (.inl rfl) (nc rfl)) (TT.name (.inl rfl) (nc rfl)),nk,TF.nil,?_⟩ (K pm cd L C)
  exact TE.meth TE.cstr (TM.str F.slot_str_join F.type_str_join) Keeps1.builtin (TL.cons (ns rfl) (TE.bin (TE.name rfl (.inl rfl)) (TE.list (vs:=[V.str d.2]) (TL.cons (ns rfl) (TE.name rfl (.inl rfl)) TL.nil) (by show 1≤sizeLine;decide)) (TO2.lcat (l:=d.1.map V.str) (l':=[V.str d.2]) (get_left _ hn) (by exact at0) (by simp;omega))) TL.nil) (TO.join (ts:=d.1++[d.2]) hS2 jo.1 jo.2)
noncomputable def lawN (script:List Int):List Int:=([205,24973]++script.take 5)++[620,0,10780]
noncomputable def lawD (script:List Int):List (Nat × Nat):=(List.range (lawN script).length).map fun k=>(k,numX (lawN script) k)
noncomputable def lawE (script:List Int):List (List Str × Str):=goodF (lawD script)
noncomputable def lawDue (script:List Int):List (List Str × Str):=dueF 3 (lawE script) []
structure EntOk (E D:List (List Str × Str)):Prop where
 ok:EOk E
 len:E.length≤10
 deep:∀ d∈E,d.1.length≤3
 short:∀ d∈E,(∀ x∈d.1,x.length≤100)∧d.2.length≤100
 mark:∀ d∈E,∀ x∈d.1,x≠("?":Str)
 told:toldF (headsF E) (valF E) 3 []=D
 count:countF (headsF E) 3 []=(headsF E).length
structure LawOk (script:List Int):Prop where
 first:∃ xs:List (Str × RowD),xs.map (·.1)=(lawD script).map (fun d=>rowText d.2 d.1)∧(∀ p∈xs,ReadsAs p.1 p.2)∧entsF (xs.map (·.2))=lawE script∧tabsF (xs.map (·.2))=(lawD script).map fun d=>rowTable d.2
 ents:EntOk (lawE script) (lawDue script)
 again:∃ xs:List (Str × RowD),xs.map (·.1)=(lawDue script).map (fun d=>glued "=" (d.1++[d.2]))∧(∀ p∈xs,ReadsAs p.1 p.2)∧entsF (xs.map (·.2))=lawDue script∧firstsT (tabsF (xs.map (·.2)))=[]
 due:EntOk (lawDue script) (lawDue script)
theorem heads_sub {E:List (List Str × Str)}:∀ Q∈headsF E,Q=[]∨∃ d∈E,∃ n,Q=d.1.take n:=by
 unfold headsF
 have key:∀ (E:List (List Str × Str)) (H:List (List Str)),∀ Q∈E.foldl (fun H d=>addH H [] d.1) H,Q∈H∨∃ d∈E,∃ n,Q=d.1.take n:=by
  intro E
  induction E with
  | nil=>intro H Q h;exact .inl h
  | cons d E ih =>
   intro H Q h
   rcases ih _ Q h with h | ⟨e,he,n,hn⟩
   ·rcases addH_mem _ _ _ Q h with h | ⟨n,h⟩
    ·exact .inl h
    ·exact .inr ⟨d,.head _,n,by simpa using h⟩
   ·exact .inr ⟨e,.tail _ he,n,hn⟩
 intro Q hQ
 rcases key E _ Q hQ with h | h
 ·exact .inl (List.mem_singleton.mp h)
 ·exact .inr h
theorem addH_len:∀ (xs:List Str) (H:List (List Str)) (P:List Str),(addH H P xs).length≤H.length + xs.length
 | [],_,_=>Nat.le_refl _
 | x :: xs,H,P=>by
  unfold addH
  have:=addH_len xs (if P++[x]∈H then H else H++[P++[x]]) (P++[x])
  have h2:(if P++[x]∈H then H else H++[P++[x]]).length≤H.length + 1:=by split <;> simp
  simp only [List.length_cons]
  omega
theorem heads_len {E D:List (List Str × Str)} (X:EntOk E D):(headsF E).length≤31:=by
 have key:∀ (E:List (List Str × Str)) (H:List (List Str)),(∀ d∈E,d.1.length≤3)→(E.foldl (fun H d=>addH H [] d.1) H).length≤H.length + 3 * E.length:=by
  intro E
  induction E with
  | nil=>intro H _;simp
  | cons d E ih =>
   intro H h
   have h1:=ih (addH H [] d.1) fun x hx=>h x (.tail _ hx)
   have h2:=addH_len d.1 H []
   have h3:=h d (.head _)
   simp only [List.foldl_cons,List.length_cons]
   omega
 have:=key E [[]] X.deep
 have:=X.len
 unfold headsF
 simp only [List.length_singleton] at *
 omega
noncomputable def Low (A B:St):Prop:=A.length≤B.length∧∀ i,i < A.length→B[i]?=A[i]?
theorem Low.refl (A:St):Low A A:=⟨Nat.le_refl _,fun _ _=>rfl⟩
theorem Low.grow {A B:St} (h:Low A B) (g:St):Low A (B++g):=⟨by rw [List.length_append];exact Nat.le_trans h.1 (Nat.le_add_right _ _),fun i hi=>by rw [List.getElem?_append_left (Nat.lt_of_lt_of_le hi h.1)];exact h.2 i hi⟩
theorem Low.trans {A B C:St} (h:Low A B) (k:Low B C):Low A C:=⟨Nat.le_trans h.1 k.1,fun i hi=>(k.2 i (Nat.lt_of_lt_of_le hi h.1)).trans (h.2 i hi)⟩
theorem Low.get {A B:St} (h:Low A B) {i:Nat} {o:MObj} (e:A[i]?=some o):B[i]?=some o:=(h.2 i (List.getElem?_eq_some_iff.mp e).1).trans e
theorem Low.pairs {A B:St} (h:Low A B) {l:List V} {D:List (List Str × Str)} (p:PairsAt A l D):PairsAt B l D:=p.imp fun _ _ ⟨n,e,q⟩=>⟨n,e,h.get q⟩
variable {T:Tab} {fr:List Str→Option Nat}
theorem told_of {a:Addr} {b n:Nat} {E D:List (List Str × Str)} (G:Globs w ad) (hf:FnAt ad "_law_told" 32 a) (X:EntOk E D) (H:Tree S T (valF E) fr) (hm:([],b)∈T) (hT:T.map (·.1)=headsF E) (hn:S[n]?=some (strsO [])):ToldCall w ad (r + 8) a D S b n:=by
 have hl:=heads_len X
 have zT:T.length=(headsF E).length:=by rw [← hT,List.length_map]
 have pos:0 < T.length:=List.length_pos_of_mem hm
 have dp:∀ q∈T,q.1.length≤3:=fun q hq=>by
  have:q.1∈headsF E:=by rw [← hT];exact List.mem_map.mpr ⟨q,hq,rfl⟩
  rcases heads_sub _ this with h | ⟨d,hd,n,h⟩
  ·rw [h];exact Nat.zero_le _
  ·rw [h];exact Nat.le_trans (by rw [List.length_take];exact Nat.min_le_right _ _) (X.deep d hd)
 have:=TC.told (r:=r) (a:=a) (w:=w) (ad:=ad) G hf (m:=10) (fun P=>Nat.le_trans (valF_len E P) X.len) (by decide) 3 H hm hn (by exact Nat.le_add_left _ _) (fun q hq=>by have:=dp q hq;assumption) (by
  have h1:T.length≤31:=by omega
  have mono:∀ (f k:Nat),k≤31→tB 10 k f≤tB 10 31 f:=by
   intro f
   induction f with
   | zero=>intro k _;exact Nat.le_refl _
   | succ f ih=>intro k hk;exact Nat.add_le_add_left (Nat.mul_le_mul hk (ih k hk)) _
  exact Nat.lt_of_le_of_lt (mono 3 _ h1) (by decide)) pos
 rw [hT,X.told] at this
 exact this
noncomputable def ScriptAt (ad:Adr) (sa:Addr) (script:List Int):Prop:=sa∉ad.tabs∧∃ mvs n,ad.hb.get? sa=some (listOf mvs n)∧All2 (fun i (mv:Value)=>∃ t,mv=.int i t) script mvs.toList
theorem TE.sliceLit {value hi:Expr} {p pos:Pos} {sa:Addr} {k:Nat} {script:List Int} (H:ScriptAt ad sa script) (T:TE w ad r env loc st value (.lit (.ref sa)) st₁) (T':TE w ad r env loc st₁ hi (.int k) st₂) (hl:script.length < 2 ^ 24)
  (ht:∀ o r,letTemporaryGo value o r=pure ():=by intro _ _;rfl) :
  TE w ad r env loc st (.Subscript value (.Slice none (some hi) none p) pos) (.ref st₂.length) (st₂++[.list ((script.map V.int).take k)]):=by
 intro A E s μ Q hA S F h
 refine xAEEA H fun hat mvs j hg0 hv0=>?_
 refine wpAny_Subscript_Slice (T:="list") (id:="list.__getitem__") list_getitem_lookup ?_ ht
 refine T A E s μ _ hA S F fun mv h₁ tk₁ μ₁ t₁ S₁ F₁ r₁=>?_
 refine wpAny_Slice (wpAny_pure ?_)
 refine T' A E _ μ₁ _ hA S₁ F₁ fun mv₂ h₂ tk₂ μ₂ t₂ S₂ F₂ r₂=>?_
 refine wpAny_pure ?_
 cases r₁
 refine r₂.int_ fun u=>?_
 have hg:=S₂.base.keep _ _ hat hg0
 have hv:All2 (RV cPair μ₂ h₂) (script.map V.int) mvs.toList:=by
  have:∀ {l:List Int} {m:List Value},All2 (fun i (mv:Value)=>∃ t,mv=.int i t) l m→All2 (RV cPair μ₂ h₂) (l.map V.int) m:=fun h=>by
   induction h with
   | nil=>exact .nil
   | cons a _ ih=>refine xE a fun t q'1=>?_;try clear a;subst q'1;exact .cons (.int _ t) ih
  exact this hv0
 have hsz:mvs.size=script.length:=by have:=hv0.length;simpa using this.symm
 have L:Heap.IsList (h₂.push { cls:=.type "slice",data:=.fields #[.none,.int k u,.none] }) sa mvs:=⟨_,Heap.get?_push_of_some _ hg,rfl,j,rfl⟩
 refine ⟨Heap.IsList.typeIs (s:={ heap:=_,gens:=_,drawn:=_,toks:=_,os:=_ }) L,?_⟩
 refine wpAny_getItem_list_slice L (Heap.IsSliceOf.new ..) .none (.int _ u) .none (by simp) ?_ (by rw [hsz];unfold sizeLine;exact Nat.le_of_lt ‹_›)
 rw [slicePick_upto']
 have SS:=S₂.push { cls:=.type "slice",data:=.fields #[.none,.int k u,.none] }
 have tS:Step ad.tabs [] μ₂ h₂ μ₂ (h₂.push { cls:=.type "slice",data:=.fields #[.none,.int k u,.none] }):=.push _
 have PP:=SS.pushList (((hv.imp fun _ _ r=>r.up S₂ tS Loose.nil)).take k)
 have T₃:Step ad.tabs [] μ₂ (h₂.push { cls:=.type "slice",data:=.fields #[.none,.int k u,.none] }) _ _:=.pushNew (listOf (List.take k mvs.toList).toArray 0)
 exact h _ _ tk₂ _ (((t₁.trans0 t₂).trans0 tS).trans0 T₃) PP ((F₂.up S₂ tS).up SS T₃) (.ref S₂.here)
theorem spell_at (S:St):SpellAt (S++spellSt S.length) (S.length + 4):=by
 refine ⟨S.length,?_,fun i hi=>?_⟩
 ·rw [List.getElem?_append_right (by exact Nat.le_add_right _ _)]
  simp [spellSt]
 ·rw [List.getElem?_append_right (by exact Nat.le_add_right _ _),Nat.add_sub_cancel_left]
  match i,hi with
  | 0,_=>rfl
  | 1,_=>rfl
  | 2,_=>rfl
  | 3,_=>rfl
structure LawMid (S:St) (T:Tab) (b rf cl rw e d:Nat) (kvs:List (Int × V)) (script:List Int):Prop where
 lists:∃ lr le ld,S[rw]?=some (.list lr)∧S[e]?=some (.list le)∧S[d]?=some (.list ld)∧All2 RowAt lr ((lawD script).map fun d=>rowTable d.2)∧PairsAt S le (lawE script)∧PairsAt S ld (lawDue script) ∧
  (∀ S',(∀ i,i < S.length→(∀ q∈T,i≠q.2 + 1)→S'[i]?=S[i]?)→PairsAt S' le (lawE script)∧PairsAt S' ld (lawDue script)∧S'[e]?=some (.list le)∧S'[d]?=some (.list ld))
 tree:Tree S T (valF (lawE script)) (fun _=>none)
 root:([],b)∈T
 heads:T.map (·.1)=headsF (lawE script)
 ref:RefAt S rf cl kvs ((lawD script).map fun d=>rowTable d.2)
 keys:kvs.map (·.1)=firstsT ((lawD script).map fun d=>rowTable d.2)
noncomputable abbrev lawLoc1 (rw e d b rf:Nat):Loc:=[(("root":Str),V.ref (b + 2)),(("refused":Str),.ref rf),(("due":Str),.ref d),(("entries":Str),.ref e),(("rows":Str),.ref rw)]
theorem lawN_len (script:List Int):(lawN script).length≤10:=by
 unfold lawN
 simp only [List.length_append,List.length_cons,List.length_nil,List.length_take]
 omega
theorem law_front {a:Nat} {sa:Addr} {script:List Int} (G:Globs w ad) (hs:ScriptAt ad sa script) (hz:script.length < 2 ^ 20) (X:LawOk script) :
  ∃ S T b rf cl rw e d kvs,LawMid S T b rf cl rw e d kvs script∧(∀ i,i < st.length→i < S.length∧S[i]?=st[i]?∧∀ q∈T,i≠q.2 + 1)∧(∀ (pm cd:Value) (L:Addr) (v:V) (st':St),THR w ad (r + 20) (lawEnv pm cd L a) (lawLoc1 rw e d b rf) S ((fBody (stAt 38)).drop 6) v st'→THR w ad (r + 20) (lawEnv pm cd L a) [(("script":Str),V.lit (.ref sa))] st (fBody (stAt 38)) v st'):=by
 refine xE G.spellings fun spa hsp=>?_
 refine xE G.row fun ra hra=>?_
 refine xE G.due fun dua hdu=>?_
 have n10:=lawN_len script
 let A1:St:=st++[intsO [205,24973]]
 let A2:St:=A1++[MObj.list ((script.map V.int).take 5)]
 let A3:St:=A2++[MObj.list ([205,24973].map V.int++(script.map V.int).take 5)]
 let A4:St:=A3++[intsO [620,0,10780]]
 let A5:St:=A4++[MObj.list (([205,24973].map V.int++(script.map V.int).take 5)++[620,0,10780].map V.int)]
 have hN:A5[A4.length]?=some (intsO (lawN script)):=by
  show (A4++[MObj.list (([205,24973].map V.int++(script.map V.int).take 5)++[620,0,10780].map V.int)])[A4.length]?=_
  simp [intsO,lawN,List.map_take]
 let B:St:=A5++spellSt A5.length
 have hNB:B[A4.length]?=some (intsO (lawN script)):=get_left _ hN
 have hspB:SpellAt B (A5.length + 4):=spell_at A5
 refine xEEA (law_rows (w:=w) (ad:=ad) (r:=r + 16) (a:=a) (nl:=A4.length) (sp:=A5.length + 4) G hra (Nat.lt_of_le_of_lt n10 (by decide)) (lawN script).length 0 B (by exact Nat.add_comm _ _) hNB hspB) fun lr g1 K1 hlr=>?_
 rw [← List.range_eq_range'] at hlr K1
 let C:St:=(B++g1)++[.list lr]
 have hrC:C[(B++g1).length]?=some (.list lr):=by show ((B++g1)++[MObj.list lr])[(B++g1).length]?=_;exact at0
 have hlrC:All2 (RowIs C) lr (lawD script):=hlr.imp fun _ _ h=>h.grow _
 refine xEA (law_entries (w:=w) (ad:=ad) (r:=r + 19) (a:=a) (S:=C) (Ok:=fun s=>s[(B++g1).length]?=some (.list lr)) hrC hlrC) fun le K2 hle=>?_
 let D:St:=C++[.list le]
 have heD:D[C.length]?=some (.list le):=by show (C++[MObj.list le])[C.length]?=_;exact at0
 have hleD:PairsAt D le (lawE script):=hle.imp fun _ _ h=>h.grow _
 let D1:St:=D++[.list []]
 have zE:=X.ents.len
 refine xEEEAA (TC.due (r:=r + 14) (a:=dua) (w:=w) (ad:=ad) (st:=D1) (n:=D.length) (e:=C.length) (P:=[]) (l:=le) G hdu X.ents.ok (fun d hd=>Nat.lt_of_le_of_lt (X.ents.deep d hd) (by decide)) (Nat.lt_of_le_of_lt zE (by decide)) 3 (by show (D++[MObj.list []])[D.length]?=_;simp [strsO]) nm (by decide) (get_left _ heD) (hleD.grow _) (fun d hd=>by simpa using X.ents.deep d hd) (by
  have mono:∀ (f k:Nat),k≤10→dueB k f≤dueB 10 f:=by
   intro f
   induction f with
   | zero=>intro k hk;exact hk
   | succ f ih=>intro k hk;exact Nat.add_le_add hk (Nat.mul_le_mul hk (ih k hk))
  exact Nat.lt_of_le_of_lt (mono 3 _ zE) (by decide))) fun g2 dd ld CD hdd hld=>?_
 let F1:St:=D1++g2
 have zlr:lr.length=(lawD script).length:=hlr.length
 have lD1:Low D F1:=((Low.refl D).grow [.list []]).grow g2
 have lC1:Low C F1:=((((Low.refl C).grow [.list le])).grow [.list []]).grow g2
 have hrF:F1[(B++g1).length]?=some (.list lr):=lC1.get hrC
 have hlrF:All2 (RowIs F1) lr (lawD script):=hlrC.imp fun _ _ ⟨p,e,h⟩=>⟨p,e,lC1.get h⟩
 have heF:F1[C.length]?=some (.list le):=lD1.get heD
 have hleF:PairsAt F1 le (lawE script):=lD1.pairs hleD
 have hldF:PairsAt F1 ld (lawDue script):=hld.imp fun _ _ h=>h.at
 refine xEAAA X.first fun xs x1 x2 x3 x4=>?_
 let F2:St:=F1++[.list ((lawD script).map fun d=>V.str (rowText d.2 d.1))]
 have eT:((lawD script).map fun d=>V.str (rowText d.2 d.1))=xs.map fun p=>V.str p.1:=by
  have:xs.map (fun p=>V.str p.1)=(xs.map (·.1)).map V.str:=by simp
  rw [this,x1];simp
 have hT2:F2[F1.length]?=some (.list (xs.map fun p=>V.str p.1)):=by
  rw [← eT]
  show (F1++[MObj.list ((lawD script).map fun d=>V.str (rowText d.2 d.1))])[F1.length]?=_
  simp
 have zD:(lawD script).length≤10:=by unfold lawD;rw [List.length_map,List.length_range];exact n10
 have zxs:xs.length≤1000:=by
  have:(xs.map (·.1)).length=((lawD script).map fun d=>rowText d.2 d.1).length:=by rw [x1]
  rw [List.length_map,List.length_map] at this
  omega
 refine xEEEE (TCH.read (r:=r + 8) (w:=w) (ad:=ad) (st:=F2) (rw:=F1.length) G hT2 x2 zxs) fun rda S' T b r'1=>?_;refine xEEEAA r'1 fun rf cl kvs hrd CR RD=>?_
 have hE3:=x3
 have rd1:=RD.tree
 have rd2:=RD.heads
 have rd3:=RD.ref
 have rd4:=RD.keys
 rw [x3] at rd1 rd2
 rw [x4] at rd3 rd4
 have zF2:F2.length=F1.length + 1:=by simp [F2]
 have lF:Low F1 S':=by
  refine ⟨by have:=RD.len;omega,fun i hi=>?_⟩
  refine (RD.low i (by omega)).trans ?_
  show (F1++[MObj.list ((lawD script).map fun d=>V.str (rowText d.2 d.1))])[i]?=_
  rw [List.getElem?_append_left hi]
 have flt:∀ {i:Nat} {o:MObj},F1[i]?=some o→i < F1.length:=fun h=>(List.getElem?_eq_some_iff.mp h).1
 have rows:All2 RowAt lr ((lawD script).map fun d=>rowTable d.2):=by
  have:∀ {l:List V} {D:List (Nat × Nat)},All2 (RowIs F1) l D→All2 RowAt l (D.map fun d=>rowTable d.2):=by
   intro l D h
   induction h with
   | nil=>exact .nil
   | cons h _ ih=>refine xEA h fun p e _=>?_;exact .cons ⟨_,_,_,e⟩ ih
  exact this hlrF
 refine ⟨S',T,b,rf,cl,(B++g1).length,C.length,dd,kvs,⟨⟨lr,le,ld,lF.get hrF,lF.get heF,lF.get hdd,rows,lF.pairs hleF,lF.pairs hldF,fun S2 h=>?_⟩,rd1,RD.root,rd2,rd3,rd4⟩,fun i hi=>?_,fun pm cd L v st' Rest=>?_⟩
 ·have l2:∀ i,i < F1.length→S2[i]?=F1[i]?:=fun i hi=>by
   have h1:∀ q∈T,i≠q.2 + 1:=fun q hq e=>by have:=RD.tlow q hq;omega
   exact (h i (Nat.lt_of_lt_of_le hi lF.1) h1).trans (lF.2 i hi)
  have g2:∀ {i:Nat} {o:MObj},F1[i]?=some o→S2[i]?=some o:=fun h=>(l2 _ (flt h)).trans h
  exact ⟨hleF.imp fun _ _ ⟨n,e,q⟩=>⟨n,e,g2 q⟩,hldF.imp fun _ _ ⟨n,e,q⟩=>⟨n,e,g2 q⟩,g2 heF,g2 hdd⟩
 ·have l0:Low st F1:=(((((((((((Low.refl st).grow _).grow _).grow _).grow _).grow _).grow _).grow _).grow _).grow _).grow _).grow _
  have l1:=l0.trans lF
  refine ⟨Nat.lt_of_lt_of_le hi l1.1,l1.2 i hi,fun q hq e=>?_⟩
  have h1:=RD.tlow q hq
  have h2:=l0.1
  omega
 ·have sc24:script.length < 2 ^ 24:=by omega
  have hA2a:A2[st.length]?=some (.list ([205,24973].map V.int)):=get_left _ (by show (st++[intsO [205,24973]])[st.length]?=_;simp [intsO])
  have hA2b:A2[A1.length]?=some (.list ((script.map V.int).take 5)):=by show (A1++[MObj.list ((script.map V.int).take 5)])[A1.length]?=_;simp
  have hA4a:A4[A2.length]?=some (.list ([205,24973].map V.int++(script.map V.int).take 5)):=get_left _ (by show (A2++[MObj.list ([205,24973].map V.int++(script.map V.int).take 5)])[A2.length]?=_;simp)
  have hA4b:A4[A3.length]?=some (.list ([620,0,10780].map V.int)):=by show (A3++[intsO [620,0,10780]])[A3.length]?=_;simp [intsO]
  refine THR.cons (TS1.h (TS1.assign (TE.bin (TE.bin (TE.list (vs:=[205,24973].map V.int) (TL.cons (ns rfl) TE.int (TL.cons (ns rfl) TE.int TL.nil)) (by show 2≤sizeLine;decide)) (TE.sliceLit (k:=5) hs (TE.name rfl (.inl rfl)) TE.int sc24) (TO2.lcat hA2a hA2b (by simp;omega))) (TE.list (vs:=[620,0,10780].map V.int) (TL.cons (ns rfl) TE.int (TL.cons (ns rfl) TE.int (TL.cons (ns rfl) TE.int TL.nil))) (by show 3≤sizeLine;decide)) (TO2.lcat hA4a hA4b (by simp;omega))) (.inr rfl) (fun _=>⟨rfl,rfl⟩))) ?_
  refine THR.cons (TS1.h (TS1.assign (TE.callG0 hsp rfl (TC.spellings (r:=r + 16) (st:=A5) G hsp)) (.inr rfl) (fun _=>⟨rfl,rfl⟩))) ?_
  refine THR.cons (t:=sIn 38 2) (loc₁:=(("rows":Str),V.ref (B++g1).length) :: (("spellings":Str),V.ref (A5.length + 4)) :: (("numbers":Str),V.ref A4.length) :: [(("script":Str),V.lit (.ref sa))]) (st₁:=C) (TS1.h ?rows) ?_
  case rows =>
   refine TS1.assignComp (vals:=fromLo 0 (lawN script).length) (capt:=[(("numbers":Str),.ref A4.length),(("spellings":Str),.ref (A5.length + 4))]) [(("spellings":Str),L + 2),(("numbers":Str),L + 1)] (TX.range1 G.range rfl (ns rfl) (TE.val (TE.callB (by rfl) G.len (by decide) rfl (TL.cons (ns rfl) (TE.name rfl (.inr (.inl rfl))) TL.nil) (TO.len hNB ?l1)) ?l2) ?n) (fun C'=>by rw [fromLo0];exact K1 pm cd L C') (.inl ⟨rfl,_,_,rfl⟩) rfl (by decide) rfl (by decide) ?cl ?clp ?capt ?sz (by intro _;rfl) rfl (.inl rfl) (nc rfl)
   case l1=>rw [List.length_map];exact Nat.lt_of_le_of_lt n10 (by decide)
   case l2=>rw [List.length_map]
   case n=>exact Int.lt_of_le_of_lt (Int.ofNat_le.mpr n10) (by decide)
   case sz=>rw [fromLo0];simp only [List.length_map,List.length_range];exact Nat.le_trans n10 (by decide)
   case clp =>
    refine .cons (fun p hp=>?_) (.cons nofun .nil)
    rw [List.mem_singleton.mp hp]
    exact Nat.ne_of_gt (Nat.lt_succ_self _)
   case cl=>exact fun p hp=>hp
   case capt =>
    intro y v e
    rcases List.mem_cons.mp (mem_lookup e) with h | h
    ·cases h
     exact ⟨rfl,.inl rfl,rfl,fun q=>nomatch (show some NameKind.cell=some NameKind.local from q)⟩
    ·cases List.mem_singleton.mp h
     exact ⟨rfl,.inl rfl,rfl,fun q=>nomatch (show some NameKind.cell=some NameKind.local from q)⟩
  refine THR.cons (t:=sIn 38 3) (loc₁:=(("entries":Str),V.ref C.length) :: (("rows":Str),V.ref (B++g1).length) :: (("spellings":Str),V.ref (A5.length + 4)) :: (("numbers":Str),V.ref A4.length) :: [(("script":Str),V.lit (.ref sa))]) (st₁:=D) (TS1.h ?ents) ?_
  case ents =>
   refine TS1.assignComp (capt:=[]) [] (TX.of (TE.name rfl (.inl rfl)) (TI.list hrC)) (K2 pm cd L) (.inr ⟨_,_,_,rfl⟩) rfl (by decide) rfl (by decide) nm .nil nk ?sz (by intro _;rfl) rfl (.inl rfl) (nc rfl)
   case sz=>rw [zlr];exact Nat.le_trans zD (by decide)
  refine THR.cons (TS1.h (TS1.assign (TE.callG hdu rfl (TL.cons (ns rfl) (TE.name rfl (.inl rfl)) (TL.cons (ns rfl) (TE.list TL.nil (Nat.zero_le _)) TL.nil)) CD) (.inl rfl) (nc rfl))) ?_
  have K3:=law_texts (w:=w) (ad:=ad) (r:=r + 19) (a:=a) (S:=F1) (Ok:=fun s=>s[(B++g1).length]?=some (.list lr)) hrF hlrF pm cd L
  refine THR.cons (t:=sIn 38 5) (loc₁:=([(("refused":Str),V.ref rf)]++[(("root":Str),V.ref (b + 2))])++((("due":Str),V.ref dd) :: (("entries":Str),V.ref C.length) :: (("rows":Str),V.ref (B++g1).length) :: (("spellings":Str),V.ref (A5.length + 4)) :: (("numbers":Str),V.ref A4.length) :: [(("script":Str),V.lit (.ref sa))])) (st₁:=S') ?read ?_
  case read =>
   refine THS1.assignTup (THE.callG hrd rfl (TL.cons (ns rfl) (TE.comp (capt:=[]) [] (TX.of (TE.name rfl (.inl rfl)) (TI.list hrF)) K3 (.inr ⟨_,_,_,rfl⟩) rfl (by decide) rfl (by decide) nm .nil nk ?sz (by intro _;rfl)) TL.nil) CR) (TT.tup2 (TT.name (.inl rfl) (nc rfl)) (TT.name (.inl rfl) (nc rfl)))
   case sz=>rw [zlr];exact Nat.le_trans zD (by decide)
  refine THR.pre Rest fun x v e=>?_
  refine sub_swap (by decide) x v ?_
  exact sub_mono (sub_mono (sub_mono (sub_mono (sub_mono sub_nil)))) x v e
theorem deep_nones:∀ (k:Nat),DeepAll st (List.replicate k V.none) (List.replicate k PyData.none)
 | 0=>.nil
 | k + 1=>.cons .none (deep_nones k)
theorem can_nones:∀ (k:Nat),PyData.canLayAll0 (List.replicate k PyData.none)=true
 | 0=>by simp [PyData.canLayAll0]
 | k + 1=>by rw [List.replicate_succ];simp [PyData.canLayAll0,PyData.canLay0,can_nones k]
theorem depth_nones:∀ (k:Nat),PyData.depthAll (List.replicate k PyData.none)=0
 | 0=>by simp [PyData.depthAll]
 | k + 1=>by rw [List.replicate_succ];simp [PyData.depthAll,PyData.depth,depth_nones k]
theorem TO2.neNones {n m k:Nat} (hn:st[n]?=some (.list (List.replicate k .none))) (hm:st[m]?=some (.list (List.replicate k .none))):TO2 w ad r st (compareOp .NotEq) (.ref n) (.ref m) (.bool false) st:=by
 have hc:(PyData.list (List.replicate k .none)).canLay0=true:=by simp only [PyData.canLay0];exact can_nones k
 exact TO2.val (TO2.neDeep (.list hn (deep_nones k)) (.list hm (deep_nones k)) hc hc (by simp only [PyData.depth,depth_nones];decide)) (by rw [eqv_self hc];rfl)
set_option maxHeartbeats 2000000 in
theorem law_back {a:Nat} {T:Tab} {b rf cl rw e d:Nat} {kvs:List (Int × V)} {script:List Int} (G:Globs w ad) (X:LawOk script) (M:LawMid S T b rf cl rw e d kvs script) :
  ∃ st',(∀ i,i < S.length→(∀ q∈T,i≠q.2 + 1)→st'[i]?=S[i]?)∧∀ pm cd L,THR w ad (r + 20) (lawEnv pm cd L a) (lawLoc1 rw e d b rf) S ((fBody (stAt 38)).drop 6) (.bool true) st':=by
 refine xE G.told fun ta hta=>?_
 refine xE G.refused fun rra hrr=>?_
 refine xE G.frozen fun fza hfz=>?_
 refine xE G.heads fun hda hhd=>?_
 refine xE G.lost fun loa hlo=>?_
 refine xEEEAAAAA M.lists fun lr le ld hr he hd hrows hle r'1=>?_;refine xA r'1 fun hld later=>?_
 have zE:=X.ents.len
 have zD:(lawD script).length≤10:=by unfold lawD;rw [List.length_map,List.length_range];exact lawN_len script
 have zlr:lr.length≤10:=by have:=hrows.length;rw [List.length_map] at this;omega
 let P1:St:=S++[.list []]
 refine xEEEAA (told_of (r:=r + 12) (a:=ta) (n:=S.length) G hta X.ents (M.tree.grow [MObj.list []]) M.root M.heads (by exact at0)) fun g1 d1 out1 C1 hd1 ho1=>?_
 let P2:St:=P1++g1
 have due2:PairsAt P2 ld (lawDue script):=(hld.imp fun _ _ h=>h.grow _).imp fun _ _ h=>h.grow _
 have hd2:P2[d]?=some (.list ld):=get_left _ (get_left _ hd)
 have out2:PairsAt P2 out1 (lawDue script):=ho1.imp fun _ _ h=>h.at
 have kz:kvs.length < 2 ^ 20:=by
  have h1:=firstsT_len ((lawD script).map fun d=>rowTable d.2) []
  have h2:(kvs.map (·.1)).length=(firstsT ((lawD script).map fun d=>rowTable d.2)).length:=by rw [M.keys]
  rw [List.length_map] at h2
  unfold firstsT at h2
  rw [List.length_map] at h1
  simp only [List.length_nil,Nat.zero_add] at h1
  omega
 refine xE (TC.refused (r:=r + 13) (w:=w) (ad:=ad) (a:=rra) (st:=P2) G hrr (get_left _ (get_left _ hr)) hrows (by omega) ((M.ref.grow _).grow _) M.keys kz) fun g2 C2=>?_
 let P3:St:=P2++g2
 have tree3:Tree P3 T (valF (lawE script)) (fun _=>none):=((M.tree.grow _).grow _).grow _
 have dp:∀ q∈T,q.1.length≤3:=fun q hq=>by
  have:q.1∈headsF (lawE script):=by rw [← M.heads];exact List.mem_map.mpr ⟨q,hq,rfl⟩
  rcases heads_sub _ this with h | ⟨d,hd,n,h⟩
  ·rw [h];exact Nat.zero_le _
  ·rw [h];exact Nat.le_trans (by rw [List.length_take];exact Nat.min_le_right _ _) (X.ents.deep d hd)
 have zT:T.length≤31:=by have:=heads_len X.ents;rw [← M.heads,List.length_map] at this;exact this
 refine xEEEAA (TC.frozen (r:=r + 12) (w:=w) (ad:=ad) (a:=fza) (val:=valF (lawE script)) G hfz 3 M.root (fun q hq=>by simpa using dp q hq) (by
  have mono:∀ (f k:Nat),k≤31→tB 1 k f≤tB 1 31 f:=by
   intro f
   induction f with
   | zero=>intro k _;exact Nat.le_refl _
   | succ f ih=>intro k hk;exact Nat.add_le_add_left (Nat.mul_le_mul hk (ih k hk)) _
  exact Nat.lt_of_le_of_lt (mono 3 _ zT) (by decide)) P3 (fun _=>none) tree3 (fun _ _ _=>rfl)) fun P4 fr4 d4 C4 hd4 F4=>?_
 rw [M.heads,X.ents.count] at hd4
 have low4':∀ i,i < S.length→(∀ q∈T,i≠q.2 + 1)→P4[i]?=S[i]?:=fun i hi hq=>by
  have i3:i < P3.length:=by show i < (((S++[MObj.list []])++g1)++g2).length;simp;omega
  refine (F4.keep i i3 fun q hq' _=>hq q hq').trans ?_
  show (((S++[MObj.list []])++g1)++g2)[i]?=_
  rw [List.append_assoc,List.append_assoc,List.getElem?_append_left hi]
 refine xAAA (later P4 low4') fun le4 ld4 he4 hdu4=>?_
 let P5:St:=P4++[.list [.none]]
 refine xEEEAA (TC.heads (r:=r + 17) (w:=w) (ad:=ad) (a:=hda) (st:=P5) G hhd (get_left _ he4) (le4.imp fun _ _ h=>h.grow _) X.ents.ok (fun d hd=>Nat.lt_of_le_of_lt (X.ents.deep d hd) (by decide)) (by omega)) fun g3 d5 hs5 C5 hd5 hz5=>?_
 let P6:St:=P5++g3
 let P7:St:=P6++[.list (List.replicate (headsF (lawE script)).length .none)]
 have iced7:Iced P7 T fr4:=fun q hq=>by
  refine xEA (F4.froz q hq (List.nil_prefix ..)) fun c a1 a2=>?_
  exact ⟨c,a1,get_left _ (get_left _ (get_left _ a2))⟩
 have tree7:Tree P7 T (valF (lawE script)) fr4:=((F4.tree.grow _).grow _).grow _
 have mk:∀ q∈T,∀ x∈q.1,x≠("?":Str):=fun q hq x hx=>by
  have:q.1∈headsF (lawE script):=by rw [← M.heads];exact List.mem_map.mpr ⟨q,hq,rfl⟩
  rcases heads_sub _ this with h | ⟨d,hd,n,h⟩
  ·rw [h] at hx;cases hx
  ·rw [h] at hx;exact X.ents.mark d hd x (List.mem_of_mem_take hx)
 refine xE (TC.lost (r:=r + 8) (w:=w) (ad:=ad) (a:=loa) (st:=P7) G hlo tree7 iced7 M.root mk (get_left _ (get_left _ (get_left _ he4))) (((le4.imp fun _ _ h=>h.grow _).imp fun _ _ h=>h.grow _).imp fun _ _ h=>h.grow _) (fun d hd=>by rw [M.heads];exact heads_new d hd) (fun d hd=>Nat.lt_of_le_of_lt (X.ents.deep d hd) (by decide)) (by omega)) fun g4 C7=>?_
 let P8:St:=P7++g4
 let P9:St:=P8++[.list []]
 refine xEEEAA (told_of (r:=r + 12) (a:=ta) (n:=P8.length) G hta X.ents ((tree7.grow g4).grow [MObj.list []]) M.root M.heads (by simp [strsO,P8])) fun g5 d9 out9 C9 hd9 ho9=>?_
 let P10:St:=P9++g5
 have low4:Low P4 P10:=(((((((Low.refl P4).grow [.list [.none]]).grow g3).grow [.list (List.replicate (headsF (lawE script)).length .none)]).grow g4).grow [.list []]).grow g5)
 have due10:PairsAt P10 ld (lawDue script):=low4.pairs ld4
 have hdu10:P10[d]?=some (.list ld):=low4.get hdu4
 have out10:PairsAt P10 out9 (lawDue script):=ho9.imp fun _ _ h=>h.at
 refine xE (law_joined (w:=w) (ad:=ad) (r:=r + 19) (a:=a) (t:=d) (l0:=ld) P10 due10 (fun x hx=>⟨Nat.le_trans (X.due.deep x hx) (by decide),X.due.short x hx⟩) hdu10) fun g6 KJ=>?_
 refine xEAAA X.again fun xs2 y1 y2 y3 y4=>?_
 let P11:St:=(P10++g6)++[.list ((lawDue script).map fun d=>V.str (glued "=" (d.1++[d.2])))]
 have eT:((lawDue script).map fun d=>V.str (glued "=" (d.1++[d.2])))=xs2.map fun p=>V.str p.1:=by
  have:xs2.map (fun p=>V.str p.1)=(xs2.map (·.1)).map V.str:=by simp
  rw [this,y1];simp
 have hT11:P11[(P10++g6).length]?=some (.list (xs2.map fun p=>V.str p.1)):=by
  rw [← eT]
  show ((P10++g6)++[MObj.list ((lawDue script).map fun d=>V.str (glued "=" (d.1++[d.2])))])[(P10++g6).length]?=_
  simp
 have zxs:xs2.length≤1000:=by
  have h1:(xs2.map (·.1)).length=((lawDue script).map fun d=>glued "=" (d.1++[d.2])).length:=by rw [y1]
  rw [List.length_map,List.length_map] at h1
  have:=X.due.len
  omega
 refine xEEEE (TCH.read (r:=r + 8) (w:=w) (ad:=ad) (st:=P11) (rw:=(P10++g6).length) G hT11 y2 zxs) fun rda P12 T2 b2 r'1=>?_;refine xEEEAA r'1 fun rf2 cl2 kvs2 hrd CR RD=>?_
 have rd1:=RD.tree
 have rd2:=RD.heads
 have rd3:=RD.ref
 have rd4:=RD.keys
 rw [y3] at rd1 rd2
 rw [y4] at rd4
 have k0:kvs2=[]:=by simpa using rd4
 have low12:Low P10 P12:=((((Low.refl P10).grow g6).grow [.list ((lawDue script).map fun d=>V.str (glued "=" (d.1++[d.2])))])).trans ⟨RD.len,RD.low⟩
 let P13:St:=P12++[.list []]
 refine xEEEAA (told_of (r:=r + 12) (a:=ta) (n:=P12.length) G hta X.due (rd1.grow [MObj.list []]) RD.root rd2 (by simp [strsO])) fun g7 d13 out13 C13 hd13 ho13=>?_
 let P14:St:=P13++g7
 have due14:PairsAt P14 ld (lawDue script):=((low12.grow [.list []]).grow g7).pairs due10
 have hdu14:P14[d]?=some (.list ld):=((low12.grow [.list []]).grow g7).get hdu10
 have out14:PairsAt P14 out13 (lawDue script):=ho13.imp fun _ _ h=>h.at
 have ff:=rd3.fdd
 rw [k0] at ff
 have h5:P5[P4.length]?=some (.list [.none]):=by show (P4++[MObj.list [.none]])[P4.length]?=_;simp
 have h7:P7[P6.length]?=some (.list (List.replicate (headsF (lawE script)).length .none)):=by show (P6++[MObj.list (List.replicate (headsF (lawE script)).length .none)])[P6.length]?=_;simp
 refine ⟨P14,fun i hi hq=>?_,fun pm cd L=>?_⟩
 ·have e4:=low4' i hi hq
  have i4:i < P4.length:=by
   rw [List.getElem?_eq_getElem hi] at e4
   exact (List.getElem?_eq_some_iff.mp e4).1
  exact (((low4.trans low12).grow [.list []]).grow g7).2 i i4 |>.trans e4
 refine THR.cons (TS1.h (TS1.ifF (TB.orF (TB.cmp (TE.callG hta rfl (TL.cons (ns rfl) (TE.name rfl (.inl rfl)) (TL.cons (ns rfl) (TE.list TL.nil (Nat.zero_le _)) TL.nil)) C1) (TE.name rfl (.inl rfl)) (TO2.nePairs hd1 hd2 out2 due2 X.due.ok))
  (TB.orF (TB.val (TB.not (TB.bool (TE.callG hrr rfl (TL.cons (ns rfl) (TE.name rfl (.inl rfl)) (TL.cons (ns rfl) (TE.name rfl (.inl rfl)) TL.nil)) C2))) rfl) TB.orNil)) TS.nil)) ?_
 refine THR.cons (TS1.h (TS1.ifF (TB.cmp (TE.callG hfz rfl (TL.cons (ns rfl) (TE.name rfl (.inl rfl)) TL.nil) C4) (TE.bin (TE.list (vs:=[V.none]) (TL.cons (ns rfl) TE.cnone TL.nil) (by show 1≤sizeLine;decide)) (TE.val (TE.callB (by rfl) G.len (by decide) rfl (TL.cons (ns rfl) (TE.callG hhd rfl (TL.cons (ns rfl) (TE.name rfl (.inl rfl)) TL.nil) C5) TL.nil) (TO.len hd5 ?z1)) (v:=.int ((headsF (lawE script)).length:Nat)) ?z2) (TO2.lmul (v:=.none) (get_left _ h5) ?z3)) (TO2.neNones (get_left _ (get_left _ (get_left _ hd4))) h7)) TS.nil)) ?_
 case z1=>rw [hz5];exact Nat.lt_of_le_of_lt (heads_len X.ents) (by decide)
 case z2=>rw [hz5]
 case z3=>exact Nat.lt_of_le_of_lt (heads_len X.ents) (by decide)
 refine THR.cons (TS1.h (TS1.ifF (TB.orF (TB.val (TB.not (TB.bool (TE.callG hlo rfl (TL.cons (ns rfl) (TE.name rfl (.inl rfl)) (TL.cons (ns rfl) (TE.name rfl (.inl rfl)) TL.nil)) C7))) rfl)
  (TB.orF (TB.cmp (TE.callG hta rfl (TL.cons (ns rfl) (TE.name rfl (.inl rfl)) (TL.cons (ns rfl) (TE.list TL.nil (Nat.zero_le _)) TL.nil)) C9) (TE.name rfl (.inl rfl)) (TO2.nePairs hd9 hdu10 out10 due10 X.due.ok)) TB.orNil)) TS.nil)) ?_
 have KJ':=KJ pm cd L
 refine THR.cons (loc₁:=([(("none":Str),V.ref rf2)]++[(("again":Str),V.ref (b2 + 2))])++lawLoc1 rw e d b rf) (st₁:=P12) (THS1.assignTup (THE.callG hrd rfl (TL.cons (ns rfl) (TE.comp (capt:=[]) [] (TX.of (TE.name rfl (.inl rfl)) (TI.list hdu10)) KJ' (.inr ⟨_,_,_,rfl⟩) rfl (by decide) rfl (by decide) nm .nil nk ?sz (by intro _;rfl)) TL.nil) CR) (TT.tup2 (TT.name (.inl rfl) (nc rfl)) (TT.name (.inl rfl) (nc rfl)))) ?_
 case sz =>
  have h1:ld.length=(lawDue script).length:=hld.length
  have:=X.due.len
  exact Nat.le_trans (by omega:ld.length≤10) (by decide)
 refine TR.h (TR.ret (TE.and2 (TE.val (TE.cmp (TE.callB (by rfl) G.len (by decide) rfl (TL.cons (ns rfl) (TE.name rfl (.inl rfl)) TL.nil) (TO.lenFdd ff (by decide))) TE.int TO2.eq) rfl) (TE.cmp (TE.callG hta rfl (TL.cons (ns rfl) (TE.name rfl (.inl rfl)) (TL.cons (ns rfl) (TE.list TL.nil (Nat.zero_le _)) TL.nil)) C13) (TE.name rfl (.inl rfl)) (TO2.eqPairs hd13 hdu14 out14 due14 X.due.ok))))
end Mine
namespace Mine
open PySem
theorem firsts_mem_pre {P:List Str}:∀ (fs:List Str) (Q:List Str) (x:Str),x∈firstsStep P fs Q ↔ x∈fs∨P++[x] <+: Q:=by
 intro fs Q x
 have pre:P++[x] <+: Q ↔ Q.take P.length=P∧P.length < Q.length∧Q.getD P.length ""=x:=by
  constructor
  ·rintro ⟨t,rfl⟩
   refine ⟨by exact takeMid,by simp,by exact getMid⟩
  ·rintro ⟨h1,h2,h3⟩
   refine ⟨Q.drop (P.length + 1),?_⟩
   have e:Q[P.length]=x:=by simpa [h2] using h3
   calc P++[x]++Q.drop (P.length + 1)=Q.take P.length++(Q[P.length] :: Q.drop (P.length + 1)):=by rw [h1,e];exact List.append_assoc ..
    _=Q.take P.length++Q.drop P.length:=by rw [List.drop_eq_getElem_cons h2]
    _=Q:=List.take_append_drop ..
 rw [pre]
 unfold firstsStep
 split
 ·next hc =>
  simp only [Bool.and_eq_true,beq_iff_eq,decide_eq_true_eq] at hc
  rw [List.mem_append,List.mem_singleton]
  constructor
  ·rintro (h | h)
   ·exact .inl h
   ·exact .inr ⟨hc.1,hc.2.1,h.symm⟩
  ·rintro (h | h)
   ·exact .inl h
   ·exact .inr h.2.2.symm
 ·next hc =>
  constructor
  ·exact .inl
  ·rintro (h | ⟨h1,h2,h3⟩)
   ·exact h
   ·simp only [Bool.and_eq_true,beq_iff_eq,decide_eq_true_eq,Bool.not_eq_true'] at hc
    cases hm:fs.contains (Q.getD P.length "") with
    | false=>exact absurd ⟨h1,h2,hm⟩ hc
    | true=>rw [← h3];exact List.contains_iff_mem.mp hm
theorem kidNames_append (H K:List (List Str)) (P:List Str):kidNames (H++K) P=kidNames H P++kidNames K P:=by simp [kidNames,List.filterMap_append]
theorem kidNames_mem {H:List (List Str)} {P:List Str} {x:Str}:x∈kidNames H P ↔ P++[x]∈H:=by
 unfold kidNames
 rw [List.mem_filterMap]
 constructor
 ·rintro ⟨Q,hQ,e⟩
  rw [← kidOf_some e];exact hQ
 ·intro h
  exact ⟨_,h,kidOf_snoc P x⟩
theorem kid_addH {P:List Str}:∀ (xs:List Str) (H:List (List Str)) (R:List Str),kidNames (addH H R xs) P=if R.length≤P.length∧R <+: P then firstsStep P (kidNames H P) (R++xs) else kidNames H P:=by
 intro xs
 induction xs with
 | nil =>
  intro H R
  unfold addH
  split
  ·next h =>
   unfold firstsStep
   rw [if_neg]
   simp only [Bool.and_eq_true,decide_eq_true_eq]
   rintro ⟨_,h2,_⟩
   simp at h2;omega
  ·rfl
 | cons x xs ih =>
  intro H R
  unfold addH
  rw [ih]
  have e:R++[x]++xs=R++x :: xs:=by exact List.append_assoc ..
  rw [e]
  by_cases hRP:R=P
  ·subst hRP
   have c1:¬ ((R++[x]).length≤R.length∧R++[x] <+: R):=fun h=>by
    have:=h.1
    simp only [List.length_append,List.length_cons,List.length_nil] at this
    exact Nat.lt_irrefl _ ‹_›
   rw [if_neg c1,if_pos (show R.length≤R.length∧R <+: R from ⟨Nat.le_refl _,List.prefix_refl _⟩)]
   unfold firstsStep
   have t1:(R++x :: xs).take R.length == R:=by simp
   have t2:(R++x :: xs).getD R.length ""=x:=by simp
   rw [t2,t1,Bool.true_and]
   have t3:decide (R.length < (R++x :: xs).length)=true:=by simp
   rw [t3,Bool.true_and]
   by_cases hm:R++[x]∈H
   ·rw [if_pos hm,if_neg]
    rw [Bool.not_eq_true',Bool.not_eq_false]
    exact List.contains_iff_mem.mpr (kidNames_mem.mpr hm)
   ·rw [if_neg hm,if_pos,kidNames_append]
    ·congr 1
     simp [kidNames,kidOf_snoc]
    ·rw [Bool.not_eq_true']
     cases hc:(kidNames H R).contains x with
     | false=>rfl
     | true=>exact absurd (kidNames_mem.mp (List.contains_iff_mem.mp hc)) hm
  ·have hk:kidNames (if R++[x]∈H then H else H++[R++[x]]) P=kidNames H P:=by
    split
    ·rfl
    ·rw [kidNames_append]
     simp [kidNames,kidOf_ne (P:=R) (Q:=P) (x:=x) (fun h=>hRP h.symm)]
   rw [hk]
   by_cases h1:(R++[x]).length≤P.length∧R++[x] <+: P
   ·rw [if_pos h1,if_pos ⟨by have:=h1.1;simp at this;exact Nat.le_of_lt ‹_›,pre_kid h1.2⟩]
   ·rw [if_neg h1]
    split
    ·next h2 =>
     unfold firstsStep
     rw [if_neg]
     simp only [Bool.and_eq_true,beq_iff_eq,decide_eq_true_eq]
     rintro ⟨a1,a2,_⟩
     refine h1 ?_
     rcases pre_cases h2.2 with h | ⟨y,hy⟩
     ·exact absurd h.symm hRP
     ·refine xE hy fun t q'1=>?_;try clear hy;subst q'1
      have hxy:x=y:=by
       have:=congrArg (fun l=>l.getD R.length "") a1
       simpa using this
      subst hxy
      exact ⟨by simp,t,rfl⟩
    ·rfl
theorem kid_heads (E:List (List Str × Str)) (P:List Str):kidNames (headsF E) P=firstsF E P:=by
 unfold headsF firstsF
 have key:∀ (E:List (List Str × Str)) (H:List (List Str)) (fs:List Str),kidNames H P=fs→kidNames (E.foldl (fun H d=>addH H [] d.1) H) P=E.foldl (fun fs d=>firstsStep P fs d.1) fs:=by
  intro E
  induction E with
  | nil=>intro H fs h;exact h
  | cons d E ih =>
   intro H fs h
   rw [List.foldl_cons,List.foldl_cons]
   refine ih _ _ ?_
   rw [kid_addH,if_pos ⟨Nat.zero_le _,List.nil_prefix ..⟩,h]
   rfl
 exact key E [[]] [] (by
  simp only [kidNames,List.filterMap_cons,List.filterMap_nil]
  simp [kidOf])
theorem told_due (E:List (List Str × Str)):∀ (f:Nat) (P:List Str),toldF (headsF E) (valF E) f P=dueF f E P:=by
 have own:∀ P,(valF E P).map (fun v=>(P,v))=ownF E P:=fun P=>by
  unfold valF ownF
  rw [List.map_map];rfl
 intro f
 induction f with
 | zero=>intro P;exact own P
 | succ f ih =>
  intro P
  unfold toldF dueF
  rw [own,kid_heads]
  congr 1
  rw [show (fun x=>toldF (headsF E) (valF E) f (P++[x]))=fun x=>dueF f E (P++[x]) from funext fun x=>ih _]
structure HOk (H:List (List Str)):Prop where
 nodup:H.Nodup
 nil:[]∈H
 closed:∀ Q∈H,Q≠[]→Q.dropLast∈H
theorem addH_ok:∀ (xs:List Str) (H:List (List Str)) (R:List Str),HOk H→R∈H→HOk (addH H R xs)
 | [],_,_,h,_=>h
 | x :: xs,H,R,h,hR=>by
  unfold addH
  split
  ·next hm=>exact addH_ok xs _ _ h hm
  ·next hm =>
   refine addH_ok xs _ _ ⟨?_,List.mem_append_left _ h.nil,fun Q hQ hne=>?_⟩ (by exact snocMem)
   ·rw [List.nodup_append]
    exact ⟨h.nodup,by simp,fun a ha b hb e=>hm (by rw [← List.mem_singleton.mp hb,← e];exact ha)⟩
   ·rcases List.mem_append.mp hQ with hQ | hQ
    ·exact List.mem_append_left _ (h.closed Q hQ hne)
    ·rw [List.mem_singleton.mp hQ,List.dropLast_concat];exact List.mem_append_left _ hR
theorem heads_ok (E:List (List Str × Str)):HOk (headsF E):=by
 unfold headsF
 have key:∀ (E:List (List Str × Str)) (H:List (List Str)),HOk H→HOk (E.foldl (fun H d=>addH H [] d.1) H):=by
  intro E
  induction E with
  | nil=>intro H h;exact h
  | cons d E ih=>intro H h;exact ih _ (addH_ok _ _ _ h h.nil)
 exact key E _ ⟨by trivial,by exact .head _,fun Q hQ hne=>absurd (List.mem_singleton.mp hQ) hne⟩
theorem HOk.pre {H:List (List Str)} (h:HOk H):∀ (xs:List Str) {P:List Str},P++xs∈H→P∈H:=by
 intro xs
 induction xs with
 | nil=>intro P h;simpa using h
 | cons x xs ih =>
  intro P hm
  have h1:P++[x]∈H:=ih (P:=P++[x]) (by simpa using hm)
  have:=h.closed _ h1 (by simp)
  simpa using this
theorem filter_sum {α β:Type} (q:α→Bool) (p:β→α→Bool):∀ (H:List α) (l:List β),(∀ Q∈H,(if q Q then 1 else 0)=(l.filter fun x=>p x Q).length)→(H.filter q).length=(l.map fun x=>(H.filter (p x)).length).sum
 | [],l,hh=>by
  simp only [List.filter_nil,List.length_nil]
  clear hh
  induction l with
  | nil=>rfl
  | cons x l ih =>
   rw [List.map_cons,List.sum_cons,← ih]
 | Q :: H,l,h=>by
  have ih:=filter_sum q p H l fun R hR=>h R (.tail _ hR)
  have h1:=h Q (.head _)
  have e:∀ l:List β,(l.map fun x=>((Q :: H).filter (p x)).length).sum=(l.filter fun x=>p x Q).length + (l.map fun x=>(H.filter (p x)).length).sum:=by
   intro l
   induction l with
   | nil=>rfl
   | cons x l ih2 =>
    rw [List.map_cons,List.sum_cons,ih2,List.filter_cons,List.filter_cons]
    cases p x Q <;> simp <;> omega
  rw [e,← ih,← h1,List.filter_cons]
  cases q Q <;> simp <;> exact Nat.add_comm _ _
theorem count_is {H:List (List Str)} (h:HOk H):∀ (f:Nat) (P:List Str),P∈H→(∀ Q∈H,Q.length≤P.length + f)→countF H f P=(H.filter fun Q=>decide (P <+: Q)).length:=by
 have one:∀ P∈H,(H.filter fun Q=>decide (Q=P)).length=1:=fun P hP=>by
  have:=h.nodup
  clear h
  induction H with
  | nil=>cases hP
  | cons Q H ih =>
   rw [List.nodup_cons] at this
   rw [List.filter_cons]
   rcases List.mem_cons.mp hP with rfl | hP
   ·have e:H.filter (fun Q=>decide (Q=P))=[]:=List.filter_eq_nil_iff.mpr fun R hR e=>this.1 (by rw [← of_decide_eq_true e];exact hR)
    simp [e]
   ·rw [if_neg (by intro e;rw [of_decide_eq_true e] at this;exact this.1 hP)]
    exact ih hP this.2
 intro f
 induction f with
 | zero =>
  intro P hP hl
  unfold countF
  rw [← one P hP]
  congr 1
  refine List.filter_congr fun Q hQ=>?_
  have:=hl Q hQ
  by_cases e:Q=P
  ·subst e;simp
  ·rw [decide_eq_false e]
   refine (decide_eq_false fun hp=>e ?_).symm
   refine xE hp fun t q'1=>?_;try clear hp;subst q'1
   have:t=[]:=by
    cases t with
    | nil=>rfl
    | cons a t=>simp only [List.length_append,List.length_cons] at this;omega
   simp [this]
 | succ f ih =>
  intro P hP hl
  unfold countF
  have e1:(kidNames H P).map (fun x=>countF H f (P++[x]))=(kidNames H P).map fun x=>(H.filter fun Q=>decide (P++[x] <+: Q)).length:=List.map_congr_left fun x hx=>ih _ (kidNames_mem.mp hx) fun Q hQ=>by
   have:=hl Q hQ
   simp only [List.length_append,List.length_cons,List.length_nil]
   omega
  rw [e1,← filter_sum (q:=fun Q=>decide (P <+: Q) && !decide (Q=P)) (p:=fun x Q=>decide (P++[x] <+: Q))]
  ·have split:∀ L:List (List Str),(L.filter fun Q=>decide (P <+: Q)).length=(L.filter fun Q=>decide (Q=P)).length + (L.filter fun Q=>decide (P <+: Q) && !decide (Q=P)).length:=by
    intro L
    induction L with
    | nil=>rfl
    | cons Q L ih2 =>
     simp only [List.filter_cons]
     by_cases e:Q=P
     ·subst e;simp;omega
     ·by_cases e2:P <+: Q
      ·simp [e,e2];omega
      ·simp [e,e2];omega
   rw [split H,one P hP]
  ·intro Q hQ
   have nd:=kidNames_nodup P h.nodup
   by_cases e2:P <+: Q
   ·rcases pre_cases e2 with e | ⟨x,hx⟩
    ·have:(kidNames H P).filter (fun x=>decide (P++[x] <+: Q))=[]:=List.filter_eq_nil_iff.mpr fun y _ hy=>by
      have:=(of_decide_eq_true hy).length_le
      rw [e] at this
      simp only [List.length_append,List.length_cons,List.length_nil] at this
      exact Nat.lt_irrefl _ ‹_›
     rw [this];simp [e]
    ·have hxk:x∈kidNames H P:=by
      rw [kidNames_mem]
      refine xE hx fun t q'1=>?_;try clear hx;subst q'1
      exact h.pre t hQ
     have hne:Q≠P:=fun e=>by
      have:=hx.length_le
      rw [e] at this
      simp only [List.length_append,List.length_cons,List.length_nil] at this
      omega
     have:((kidNames H P).filter fun y=>decide (P++[y] <+: Q)).length=1:=by
      have e3:(kidNames H P).filter (fun y=>decide (P++[y] <+: Q))=(kidNames H P).filter fun y=>decide (y=x):=List.filter_congr fun y _=>by
       by_cases e:y=x
       ·subst e;simp [hx]
       ·rw [decide_eq_false e];exact decide_eq_false fun hy=>e (pre_uniq hy hx)
      rw [e3]
      generalize kidNames H P=l at nd hxk
      induction l with
      | nil=>cases hxk
      | cons y l ih3 =>
       rw [List.nodup_cons] at nd
       rw [List.filter_cons]
       rcases List.mem_cons.mp hxk with rfl | hm
       ·have e:l.filter (fun y=>decide (y=x))=[]:=List.filter_eq_nil_iff.mpr fun R hR e=>nd.1 (by rw [← of_decide_eq_true e];exact hR)
        simp [e]
       ·rw [if_neg (by intro e;rw [of_decide_eq_true e] at nd;exact nd.1 hm)]
        exact ih3 nd.2 hm
     rw [this];simp [e2,hne]
   ·have:(kidNames H P).filter (fun x=>decide (P++[x] <+: Q))=[]:=List.filter_eq_nil_iff.mpr fun y _ hy=>e2 (pre_kid (of_decide_eq_true hy))
    rw [this];simp [e2]
theorem count_heads {E:List (List Str × Str)} (hd:∀ d∈E,d.1.length≤3):countF (headsF E) 3 []=(headsF E).length:=by
 rw [count_is (heads_ok E) 3 [] (heads_ok E).nil fun Q hQ=>?_]
 ·congr 1
  exact List.filter_eq_self.mpr fun Q _=>by rfl
 ·rcases heads_sub Q hQ with h | ⟨d,hd',n,h⟩
  ·rw [h];exact Nat.zero_le _
  ·rw [h]
   have:=hd d hd'
   simp only [List.length_take,List.length_nil]
   omega
end Mine
namespace Mine
open PySem
variable {E : List (List Str × Str)} {P Q : List Str} {x y : Str}
theorem firsts_mem:x∈firstsF E P ↔ ∃ d∈E,P++[x] <+: d.1:=by
 unfold firstsF
 have key:∀ (E:List (List Str × Str)) (fs:List Str),x∈E.foldl (fun fs d=>firstsStep P fs d.1) fs ↔ x∈fs∨∃ d∈E,P++[x] <+: d.1:=by
  intro E
  induction E with
  | nil=>intro fs;simp
  | cons d E ih =>
   intro fs
   rw [List.foldl_cons,ih,firsts_mem_pre]
   simp only [List.mem_cons,exists_eq_or_imp,or_assoc]
 rw [key];simp
theorem firsts_nodup:(firstsF E P).Nodup:=by
 rw [← kid_heads];exact kidNames_nodup P (heads_ok E).nodup
theorem own_is {d:List Str × Str}:d∈ownF E P ↔ d∈E∧d.1=P:=by
 unfold ownF
 rw [List.mem_map]
 constructor
 ·rintro ⟨e,he,rfl⟩
  refine xA (List.mem_filter.mp he) fun h1 h2=>?_
  have h3:e.1=P:=by simpa using h2
  exact ⟨by rw [← h3];exact h1,rfl⟩
 ·rintro ⟨h1,h2⟩
  exact ⟨d,List.mem_filter.mpr ⟨h1,by simpa using h2⟩,by rw [← h2]⟩
theorem due_mem:∀ {f:Nat} {P:List Str} {d:List Str × Str},d∈dueF f E P ↔ d∈E∧P <+: d.1∧d.1.length≤P.length + f:=by
 intro f
 induction f with
 | zero =>
  intro P d
  unfold dueF
  rw [own_is]
  constructor
  ·rintro ⟨h1,h2⟩;exact ⟨h1,by rw [h2];exact List.prefix_refl _,by rw [h2];exact Nat.le_refl _⟩
  ·rintro ⟨h1,h2,h3⟩
   exact ⟨h1,(h2.eq_of_length (Nat.le_antisymm h2.length_le (by simpa using h3))).symm⟩
 | succ f ih =>
  intro P d
  unfold dueF
  rw [List.mem_append,List.mem_flatMap,own_is]
  constructor
  ·rintro (⟨h1,h2⟩ | ⟨x,_,h⟩)
   ·exact ⟨h1,by rw [h2];exact List.prefix_refl _,by rw [h2];exact Nat.le_add_right _ _⟩
   ·refine xAA (ih.mp h) fun h1 h2 h3=>?_
    simp only [List.length_append,List.length_cons,List.length_nil] at h3
    exact ⟨h1,pre_kid h2,by omega⟩
  ·rintro ⟨h1,h2,h3⟩
   rcases pre_cases h2 with h | ⟨x,hx⟩
   ·exact .inl ⟨h1,h⟩
   ·refine .inr ⟨x,firsts_mem.mpr ⟨d,h1,hx⟩,ih.mpr ⟨h1,hx,?_⟩⟩
    simp only [List.length_append,List.length_cons,List.length_nil]
    omega
theorem own_under:ownF (E.filter fun d=>decide (Q <+: d.1)) Q=ownF E Q:=by
 unfold ownF
 rw [List.filter_filter]
 congr 1
 refine List.filter_congr fun d _=>?_
 by_cases e:d.1=Q
 ·simp [e]
 ·simp [e]
theorem firsts_under:firstsF (E.filter fun d=>decide (Q <+: d.1)) Q=firstsF E Q:=by
 unfold firstsF
 generalize ([]:List Str)=fs
 induction E generalizing fs with
 | nil=>rfl
 | cons d E ih =>
  rw [List.filter_cons]
  by_cases e:Q <+: d.1
  ·rw [if_pos (by simpa using e),List.foldl_cons,List.foldl_cons];exact ih _
  ·rw [if_neg (by simpa using e),List.foldl_cons]
   have:firstsStep Q fs d.1=fs:=by
    unfold firstsStep
    rw [if_neg]
    simp only [Bool.and_eq_true,beq_iff_eq]
    rintro ⟨h,_⟩
    exact e ⟨d.1.drop Q.length,by
     have:=List.take_append_drop Q.length d.1
     rw [h] at this
     exact this⟩
   rw [this];exact ih _
theorem flat_one {α β:Type} {p:β→Bool} {k:α→List β} {y:α}:∀ {l:List α},l.Nodup→y∈l→(∀ x∈l,x≠y→(k x).filter p=[])→(l.flatMap k).filter p=(k y).filter p
 | x :: l,nd,hy,h=>by
  rw [List.nodup_cons] at nd
  rw [List.flatMap_cons,List.filter_append]
  rcases List.mem_cons.mp hy with rfl | hm
  ·have:(l.flatMap k).filter p=[]:=by
    rw [List.filter_flatMap]
    exact List.flatMap_eq_nil_iff.mpr fun x hx=>h x (.tail _ hx) fun e=>nd.1 (e ▸ hx)
   rw [this,List.append_nil]
  ·rw [h x (.head _) fun e=>nd.1 (e ▸ hm),List.nil_append]
   exact flat_one nd.2 hm fun z hz=>h z (.tail _ hz)
theorem due_under {f:Nat} (hQ:P++[y] <+: Q):((dueF (f + 1) E P).filter fun d=>decide (Q <+: d.1))=(dueF f E (P++[y])).filter fun d=>decide (Q <+: d.1):=by
 have o:((ownF E P).filter fun d=>decide (Q <+: d.1))=[]:=List.filter_eq_nil_iff.mpr fun d hd e=>by
  have h1:=(own_is.mp hd).2
  have h2:=(hQ.trans (of_decide_eq_true e)).length_le
  rw [h1] at h2
  simp only [List.length_append,List.length_cons,List.length_nil] at h2
  exact Nat.lt_irrefl _ ‹_›
 have no:∀ x,x≠y→((dueF f E (P++[x])).filter fun d=>decide (Q <+: d.1))=[]:=fun x hx=>List.filter_eq_nil_iff.mpr fun d hd e=>hx (pre_uniq (due_mem.mp hd).2.1 (hQ.trans (of_decide_eq_true e)))
 rw [show dueF (f + 1) E P=ownF E P++(firstsF E P).flatMap fun x=>dueF f E (P++[x]) from rfl,List.filter_append,o,List.nil_append]
 by_cases hy:y∈firstsF E P
 ·exact flat_one (k:=fun x=>dueF f E (P++[x])) firsts_nodup hy fun x _ hx=>no x hx
 ·have e1:((dueF f E (P++[y])).filter fun d=>decide (Q <+: d.1))=[]:=List.filter_eq_nil_iff.mpr fun d hd _=>hy (firsts_mem.mpr ⟨d,(due_mem.mp hd).1,(due_mem.mp hd).2.1⟩)
  rw [e1,List.filter_flatMap]
  exact List.flatMap_eq_nil_iff.mpr fun x hx=>no x fun e=>hy (e ▸ hx)
theorem firsts_blocks {k:Str→List (List Str × Str)}:∀ (l fs:List Str),l.Nodup→(∀ x∈l,x∉fs)→(∀ x∈l,k x≠[]∧∀ d∈k x,P++[x] <+: d.1)→(l.flatMap k).foldl (fun fs d=>firstsStep P fs d.1) fs=fs++l
 | [],fs,_,_,_=>by exact (List.append_nil _).symm
 | x :: l,fs,nd,hf,h=>by
  rw [List.nodup_cons] at nd
  rw [List.flatMap_cons,List.foldl_append]
  have step:∀ (d:List Str × Str) (fs:List Str),P++[x] <+: d.1→firstsStep P fs d.1=if fs.contains x then fs else fs++[x]:=by
   intro d fs hd
   refine xE hd fun t ht=>?_
   unfold firstsStep
   rw [← ht]
   have t1:(P++[x]++t).take P.length == P:=by simp
   have t2:(P++[x]++t).getD P.length ""=x:=by exact getMid
   have t3:decide (P.length < (P++[x]++t).length)=true:=by simp
   rw [t2,t1,t3,Bool.true_and,Bool.true_and]
   cases fs.contains x <;> rfl
  have stay:∀ (ds:List (List Str × Str)) (fs:List Str),x∈fs→(∀ d∈ds,P++[x] <+: d.1)→ds.foldl (fun fs d=>firstsStep P fs d.1) fs=fs:=by
   intro ds
   induction ds with
   | nil=>intro fs _ _;rfl
   | cons d ds ih =>
    intro fs hx hd
    rw [List.foldl_cons,step d fs (hd d (.head _)),if_pos (List.contains_iff_mem.mpr hx)]
    exact ih fs hx fun e he=>hd e (.tail _ he)
  have one:(k x).foldl (fun fs d=>firstsStep P fs d.1) fs=fs++[x]:=by
   refine xA (h x (.head _)) fun hne hp=>?_
   cases hk:k x with
   | nil=>exact absurd hk hne
   | cons d ds =>
    rw [hk] at hp
    rw [List.foldl_cons,step d fs (hp d (.head _)),if_neg (fun hc=>hf x (.head _) (List.contains_iff_mem.mp hc))]
    exact stay ds _ (by exact snocMem) fun e he=>hp e (.tail _ he)
  rw [one,firsts_blocks l (fs++[x]) nd.2 (fun z hz hm=>by
   rcases List.mem_append.mp hm with hm | hm
   ·exact hf z (.tail _ hz) hm
   ·rw [List.mem_singleton] at hm;exact nd.1 (hm ▸ hz)) fun z hz=>h z (.tail _ hz)]
  exact List.append_assoc ..
theorem due_same:∀ (f:Nat) (P Q:List Str),P <+: Q→(∀ d∈E,d.1.length≤P.length + f)→ownF (dueF f E P) Q=ownF E Q∧firstsF (dueF f E P) Q=firstsF E Q:=by
 have ownown:∀ P,ownF (ownF E P) P=ownF E P:=fun P=>by
  unfold ownF
  have e:((E.filter fun d=>d.1 == P).map fun d=>(P,d.2)).filter (fun d=>d.1 == P)=(E.filter fun d=>d.1 == P).map fun d=>(P,d.2):=List.filter_eq_self.mpr fun d hd=>by
   refine xEA (List.mem_map.mp hd) fun e _ q'1=>?_;subst q'1;simp
  rw [e,List.map_map]
  rfl
 have ownno:∀ {D:List (List Str × Str)} {Q},(∀ d∈D,d.1≠Q)→ownF D Q=[]:=fun {D Q} h=>by
  cases hc:ownF D Q with
  | nil=>rfl
  | cons e l =>
   have:=own_is.mp (show e∈ownF D Q by rw [hc];exact .head _)
   exact absurd this.2 (h e this.1)
 have firstsno:∀ {D:List (List Str × Str)} {Q},(∀ d∈D,d.1.length≤Q.length)→firstsF D Q=[]:=fun {D Q} h=>by
  cases hc:firstsF D Q with
  | nil=>rfl
  | cons x l =>
   refine xEA (firsts_mem.mp (show x∈firstsF D Q by rw [hc];exact .head _)) fun d hd hp=>?_
   have h1:=hp.length_le
   have h2:=h d hd
   simp only [List.length_append,List.length_cons,List.length_nil] at h1
   exact noL ‹_› ‹_›
 intro f
 induction f with
 | zero =>
  intro P Q hPQ hE
  have hl:=hPQ.length_le
  rw [show dueF 0 E P=ownF E P from rfl]
  refine ⟨?_,?_⟩
  ·rcases pre_cases hPQ with rfl | ⟨y,hy⟩
   ·exact ownown _
   ·have h1:=hy.length_le
    simp only [List.length_append,List.length_cons,List.length_nil] at h1
    rw [ownno fun d hd e=>by rw [(own_is.mp hd).2] at e;rw [← e] at h1;exact Nat.lt_irrefl _ ‹_›,ownno fun d hd e=>by have:=hE d hd;rw [e] at this;exact noL ‹_› ‹_›]
  ·rw [firstsno fun d hd=>by rw [(own_is.mp hd).2];exact hl,firstsno fun d hd=>by have:=hE d hd;exact Nat.le_trans ‹_› ‹_›]
 | succ f ih =>
  intro P Q hPQ hE
  rcases pre_cases hPQ with rfl | ⟨y,hy⟩
  ·refine ⟨?_,?_⟩
   ·have e:ownF (dueF (f + 1) E Q) Q=ownF (ownF E Q) Q++ownF ((firstsF E Q).flatMap fun x=>dueF f E (Q++[x])) Q:=by
     rw [show dueF (f + 1) E Q=ownF E Q++(firstsF E Q).flatMap fun x=>dueF f E (Q++[x]) from rfl]
     unfold ownF
     rw [List.filter_append,List.map_append]
    rw [e,ownown,ownno (D:=(firstsF E Q).flatMap fun x=>dueF f E (Q++[x])) fun d hd e=>by
     refine xEA (List.mem_flatMap.mp hd) fun x _ hx=>?_
     have:=(due_mem.mp hx).2.1.length_le
     rw [e] at this
     simp only [List.length_append,List.length_cons,List.length_nil] at this
     exact Nat.lt_irrefl _ ‹_›,List.append_nil]
   ·have e:firstsF (dueF (f + 1) E Q) Q=((firstsF E Q).flatMap fun x=>dueF f E (Q++[x])).foldl (fun fs d=>firstsStep Q fs d.1) (firstsF (ownF E Q) Q):=by
     rw [show dueF (f + 1) E Q=ownF E Q++(firstsF E Q).flatMap fun x=>dueF f E (Q++[x]) from rfl]
     rw [show firstsF (ownF E Q++(firstsF E Q).flatMap fun x=>dueF f E (Q++[x])) Q=(ownF E Q++(firstsF E Q).flatMap fun x=>dueF f E (Q++[x])).foldl (fun fs d=>firstsStep Q fs d.1) [] from rfl,List.foldl_append]
     rfl
    rw [e,firstsno fun d hd=>by rw [(own_is.mp hd).2];exact Nat.le_refl _]
    rw [firsts_blocks (k:=fun x=>dueF f E (Q++[x])) (firstsF E Q) [] firsts_nodup (fun x _ h=>by cases h) fun x hx=>⟨fun hn=>?_,fun d hd=>(due_mem.mp hd).2.1⟩,List.nil_append]
    refine xEA (firsts_mem.mp hx) fun d hd hp=>?_
    have hm:d∈dueF f E (Q++[x]):=due_mem.mpr ⟨hd,hp,by
     have:=hE d hd
     simp only [List.length_append,List.length_cons,List.length_nil]
     omega⟩
    rw [hn] at hm
    cases hm
  ·have A:=ih (P++[y]) Q hy fun d hd=>by
    have:=hE d hd
    simp only [List.length_append,List.length_cons,List.length_nil]
    omega
   exact ⟨by rw [← own_under (E:=dueF (f + 1) E P),due_under hy,own_under,A.1],by rw [← firsts_under (E:=dueF (f + 1) E P),due_under hy,firsts_under,A.2]⟩
theorem due_again {f:Nat} (hE:∀ d∈E,d.1.length≤f):∀ (g:Nat) (Q:List Str),dueF g (dueF f E []) Q=dueF g E Q:=by
 have S:=fun Q=>due_same (E:=E) f [] Q (List.nil_prefix ..) (by simpa using hE)
 intro g
 induction g with
 | zero=>intro Q;exact (S Q).1
 | succ g ih =>
  intro Q
  unfold dueF
  rw [(S Q).1,(S Q).2]
  congr 1
  exact congrArg (fun k=>(firstsF E Q).flatMap k) (funext fun x=>ih _)
theorem len_flat {α β:Type} {k:α→List β}:∀ (l:List α),(l.flatMap k).length=(l.map fun x=>(k x).length).sum
 | []=>rfl
 | x :: l=>by rw [List.flatMap_cons,List.length_append,List.map_cons,List.sum_cons,len_flat l]
theorem one_of {p:Str→Bool} {x:Str}:∀ {l:List Str},l.Nodup→x∈l→(∀ y,p y=decide (y=x))→(l.filter p).length=1
 | y :: l,nd,hm,h=>by
  rw [List.nodup_cons] at nd
  rw [List.filter_cons]
  rcases List.mem_cons.mp hm with rfl | hm
  ·have e:l.filter p=[]:=List.filter_eq_nil_iff.mpr fun R hR e=>nd.1 (by rw [h] at e;rw [← of_decide_eq_true e];exact hR)
   rw [if_pos (by rw [h];simp),e];rfl
  ·rw [if_neg (by intro e;rw [h] at e;rw [of_decide_eq_true e] at nd;exact nd.1 hm)]
   exact one_of nd.2 hm h
theorem due_length:∀ (f:Nat) (P:List Str),(∀ d∈E,d.1.length≤P.length + f)→(dueF f E P).length=(E.filter fun d=>decide (P <+: d.1)).length:=by
 have ownl:∀ P,(ownF E P).length=(E.filter fun d=>d.1 == P).length:=fun P=>by unfold ownF;rw [List.length_map]
 intro f
 induction f with
 | zero =>
  intro P hE
  rw [show dueF 0 E P=ownF E P from rfl,ownl]
  congr 1
  refine List.filter_congr fun d hd=>?_
  by_cases e:d.1=P
  ·simp [e]
  ·have:¬ P <+: d.1:=fun h=>e (h.eq_of_length (Nat.le_antisymm h.length_le (by simpa using hE d hd))).symm
   simp [e,this]
 | succ f ih =>
  intro P hE
  rw [show dueF (f + 1) E P=ownF E P++(firstsF E P).flatMap fun x=>dueF f E (P++[x]) from rfl,List.length_append,ownl,len_flat]
  rw [show (fun x=>(dueF f E (P++[x])).length)=fun x=>(E.filter fun d=>decide (P++[x] <+: d.1)).length from funext fun x=>ih _ fun d hd=>by
   have:=hE d hd
   simp only [List.length_append,List.length_cons,List.length_nil]
   omega]
  rw [← filter_sum (H:=E) (l:=firstsF E P) (q:=fun d=>decide (P <+: d.1) && !(d.1 == P)) (p:=fun x d=>decide (P++[x] <+: d.1))]
  ·have split:∀ L:List (List Str × Str),(L.filter fun d=>decide (P <+: d.1)).length=(L.filter fun d=>d.1 == P).length + (L.filter fun d=>decide (P <+: d.1) && !(d.1 == P)).length:=by
    intro L
    induction L with
    | nil=>rfl
    | cons d L ih2 =>
     simp only [List.filter_cons]
     by_cases e:d.1=P
     ·simp [e];omega
     ·by_cases e2:P <+: d.1
      ·simp [e,e2];omega
      ·simp [e,e2];omega
   exact (split E).symm
  ·intro d hd
   by_cases e2:P <+: d.1
   ·rcases pre_cases e2 with e | ⟨x,hx⟩
    ·have:(firstsF E P).filter (fun x=>decide (P++[x] <+: d.1))=[]:=List.filter_eq_nil_iff.mpr fun y _ hy=>by
      have:=(of_decide_eq_true hy).length_le
      rw [e] at this
      simp only [List.length_append,List.length_cons,List.length_nil] at this
      exact Nat.lt_irrefl _ ‹_›
     rw [this];simp [e]
    ·have hne:d.1≠P:=fun e=>by
      have:=hx.length_le
      rw [e] at this
      simp only [List.length_append,List.length_cons,List.length_nil] at this
      omega
     rw [one_of firsts_nodup (firsts_mem.mpr ⟨d,hd,hx⟩) fun y=>by
      by_cases e:y=x
      ·subst e;simp [hx]
      ·rw [decide_eq_false e];exact decide_eq_false fun hy=>e (pre_uniq hy hx)]
     simp [e2,hne]
   ·have:(firstsF E P).filter (fun x=>decide (P++[x] <+: d.1))=[]:=List.filter_eq_nil_iff.mpr fun y _ hy=>e2 (pre_kid (of_decide_eq_true hy))
    rw [this];simp [e2]
structure EBase (E:List (List Str × Str)):Prop where
 ok:EOk E
 len:E.length≤10
 deep:∀ d∈E,d.1.length≤3
 short:∀ d∈E,(∀ x∈d.1,x.length≤100)∧d.2.length≤100
 mark:∀ d∈E,∀ x∈d.1,x≠("?":Str)
theorem EBase.ents (B:EBase E):EntOk E (dueF 3 E []):=⟨B.ok,B.len,B.deep,B.short,B.mark,told_due E 3 [],count_heads B.deep⟩
theorem EBase.due (B:EBase E):EBase (dueF 3 E []) where
 ok d hd:=B.ok d (due_mem.mp hd).1
 len:=by
  rw [due_length 3 [] (by simpa using B.deep)]
  exact Nat.le_trans (List.length_filter_le ..) B.len
 deep d hd:=B.deep d (due_mem.mp hd).1
 short d hd:=B.short d (due_mem.mp hd).1
 mark d hd:=B.mark d (due_mem.mp hd).1
theorem EBase.dues (B:EBase E):EntOk (dueF 3 E []) (dueF 3 E []):=by
 have:=B.due.ents
 rwa [due_again B.deep] at this
end Mine
namespace Mine
open PySem
noncomputable def heads4:List Str:=spell.map fun fs=>fs.getD 0 ""
theorem heads4_ok:∀ x∈heads4,PyData.strOk x=true∧x.length≤100∧x≠("?":Str):=by decide +kernel
theorem values4_ok:∀ x∈values4,PyData.strOk x=true∧x.length≤100:=by decide +kernel
theorem rowW_lt (x k:Nat):rowW x k < 4:=Nat.mod_lt _ (by decide)
theorem head_in (x k:Nat):(rowForms x k).getD 0 ""∈heads4:=by
 have h:=rowW_lt x k
 unfold rowForms heads4
 generalize rowW x k=i at h
 have hi:i < spell.length:=h
 have e:spell.getD i []=spell[i]:=by exact getDlt ‹_›
 rw [e]
 exact List.mem_map.mpr ⟨_,List.getElem_mem hi,rfl⟩
theorem val_in (x:Nat):rowVal x∈values4:=by
 unfold rowVal
 have h:x / 192 % 4 < 4:=Nat.mod_lt _ (by decide)
 generalize x / 192 % 4=i at h
 have hi:i < values4.length:=h
 have e:values4.getD i ""=values4[i]:=by exact getDlt ‹_›
 rw [e]
 exact List.getElem_mem hi
theorem path_in {x:Nat}:∀ y∈rowPath x,y∈heads4:=by
 intro y hy
 refine xEA (List.mem_map.mp hy) fun k _ q'1=>?_;subst q'1
 exact head_in x k
theorem good_is {D:List (Nat × Nat)} {d:List Str × Str} (h:d∈goodF D):∃ x,d=(rowPath x,rowVal x):=by
 refine xEA (List.mem_filterMap.mp h) fun e _ he=>?_
 split at he
 ·exact ⟨e.2,(Option.some.inj he).symm⟩
 ·exact nomatch he
theorem lawD_len (script:List Int):(lawD script).length≤10:=by
 unfold lawD lawN
 simp only [List.length_map,List.length_range,List.length_append,List.length_cons,List.length_nil,List.length_take]
 omega
theorem lawE_base (script:List Int):EBase (lawE script) where
 ok d hd:=by
  refine xE (good_is hd) fun x q'1=>?_;subst q'1
  exact ⟨fun y hy=>(heads4_ok y (path_in y hy)).1,(values4_ok _ (val_in x)).1⟩
 len:=Nat.le_trans (List.length_filterMap_le ..) (lawD_len script)
 deep d hd:=by
  refine xE (good_is hd) fun x q'1=>?_;subst q'1
  simp only [rowPath,List.length_map,List.length_range]
  exact rowN_le x
 short d hd:=by
  refine xE (good_is hd) fun x q'1=>?_;subst q'1
  exact ⟨fun y hy=>(heads4_ok y (path_in y hy)).2.1,(values4_ok _ (val_in x)).2⟩
 mark d hd:=by
  refine xE (good_is hd) fun x q'1=>?_;subst q'1
  exact fun y hy=>(heads4_ok y (path_in y hy)).2.2
theorem law_ents (script:List Int):EntOk (lawE script) (lawDue script):=(lawE_base script).ents
theorem law_dues (script:List Int):EntOk (lawDue script) (lawDue script):=(lawE_base script).dues
theorem due_in {script:List Int} {d:List Str × Str} (h:d∈lawDue script):∃ x,d=(rowPath x,rowVal x):=good_is (due_mem.mp h).1
end Mine
namespace Mine
open PySem PySem.Builtin PySem.Builtin.Str PySem.StrLaws
theorem eq_sign:("=":Str)=⟨#[61]⟩:=by kernel_rfl
theorem at_eq {x:Str} {i:Nat}:At x ("=":Str) x.length i ↔ x.cps[i]?=some 61:=by
 rw [eq_sign]
 show (i + 1≤x.cps.size∧(x.cps.extract i (i + 1) == #[61])=true) ↔ _
 rw [beq_iff_eq]
 constructor
 ·rintro ⟨h,e⟩
  have e2:=congrArg (fun a:Array Nat=>a[0]?) e
  have e3:0 < Min.min (i + 1) x.cps.size - i∧x.cps[i]=61:=by simpa [Array.getElem?_extract,show i < x.cps.size by assumption] using e2
  exact Array.getElem?_eq_some_iff.mpr ⟨h,e3.2⟩
 ·intro h
  refine xE (Array.getElem?_eq_some_iff.mp h) fun hi he=>?_
  refine ⟨hi,?_⟩
  apply Array.ext
  ·simp;omega
  ·intro j h1 h2
   have:j=0:=by simp at h2;omega
   subst this
   simp [he]
theorem kind_eq (x:Str):decide (strKind x < strKind ("=":Str))=false:=by
 rw [eq_sign]
 refine decide_eq_false ?_
 have:PySem.Builtin.Str.strKind (⟨#[61]⟩:Str)=1:=by decide +kernel
 rw [this]
 unfold PySem.Builtin.Str.strKind
 split
 ·trivial
 ·split <;> trivial
theorem cut_at {a t:Str} (ha:∀ c∈a.cps.toList,c≠61):Txt.splitMax ⟨a.cps++#[61]++t.cps⟩ ("=":Str) 1=[a,t]:=by
 have hsz:(⟨a.cps++#[61]++t.cps⟩:Str).length=a.cps.size + 1 + t.cps.size:=by simp [Str.length]
 have hat:(a.cps++#[61]++t.cps)[a.cps.size]?=some 61:=by
  rw [Array.getElem?_append_left (by simp)]
  simp
 unfold Txt.splitMax
 rw [kind_eq]
 have l1:decide ((⟨a.cps++#[61]++t.cps⟩:Str).length < ("=":Str).length)=false:=by
  rw [hsz,eq_sign]
  exact decide_eq_false (by show ¬ _ < 1;omega)
 rw [l1,if_neg (by decide)]
 rw [show limitOf (⟨a.cps++#[61]++t.cps⟩:Str) 1=1 from rfl]
 have len:=occ_length_le (⟨a.cps++#[61]++t.cps⟩:Str) ("=":Str) 0 (⟨a.cps++#[61]++t.cps⟩:Str).length 1
 rcases occ_head (⟨a.cps++#[61]++t.cps⟩:Str) ("=":Str) 1 (Nat.le_refl _) with ⟨_,hn⟩ | ⟨i,r,e,hi,hk⟩
 ·exact absurd (at_eq.mpr hat) (hn _)
 ·rw [e] at len ⊢
  have hr:r=[]:=by
   cases r with
   | nil=>rfl
   | cons _ _=>simp only [List.length_cons] at len;trivial
  subst hr
  have hia:i=a.cps.size:=by
   rcases Nat.lt_trichotomy i a.cps.size with h | h | h
   ·have h1:(a.cps++#[61]++t.cps)[i]?=some 61:=at_eq.mp hi
    rw [Array.append_assoc,Array.getElem?_append_left h] at h1
    refine xE (Array.getElem?_eq_some_iff.mp h1) fun h2 h3=>?_
    exact absurd h3 (ha _ (Array.mem_toList_iff.mpr (Array.getElem_mem h2)) )
   ·exact h
   ·exact absurd (at_eq.mpr hat) (hk _ h)
  subst hia
  rw [if_neg (by simp)]
  show [strSub _ 0 a.cps.size,strSub _ (a.cps.size + ("=":Str).length) _]=_
  rw [eq_sign]
  show [(⟨(a.cps++#[61]++t.cps).extract 0 a.cps.size⟩:Str),⟨(a.cps++#[61]++t.cps).extract (a.cps.size + 1) (a.cps++#[61]++t.cps).size⟩]=[⟨a.cps⟩,⟨t.cps⟩]
  congr 2
  ·rw [Array.append_assoc,Array.extract_append]
   simp
  ·congr 1
   rw [Array.extract_append]
   simp
theorem cut_none {x:Str} (hx:∀ c∈x.cps.toList,c≠61):Txt.splitMax x ("=":Str) 1=[x]:=by
 unfold Txt.splitMax
 split
 ·rfl
 ·rw [show limitOf x 1=1 from rfl]
  rcases occ_head x ("=":Str) 1 (Nat.le_refl _) with ⟨e,_⟩ | ⟨i,r,_,hi,_⟩
  ·rw [e];rfl
  ·refine xE (Array.getElem?_eq_some_iff.mp (at_eq.mp hi)) fun h2 h3=>?_
   exact absurd h3 (hx _ (Array.mem_toList_iff.mpr (Array.getElem_mem h2)))
end Mine
namespace Mine
open PySem PySem.Builtin PySem.Builtin.Str PySem.StrLaws PyProof.Rows
noncomputable abbrev sp (c:Nat):Bool:=Unicode.isSpace c
noncomputable abbrev toS (l:List Nat):Str:=⟨l.toArray⟩
noncomputable def dropR (l:List Nat):List Nat:=(l.reverse.dropWhile sp).reverse
noncomputable def stripL (l:List Nat):List Nat:=dropR (l.dropWhile sp)
theorem drop_take {p:Nat→Bool}:∀ l:List Nat,l.drop (l.takeWhile p).length=l.dropWhile p
 | []=>rfl
 | a :: l=>by
  rw [List.takeWhile_cons,List.dropWhile_cons]
  cases p a with
  | true=>simpa using drop_take l
  | false=>rfl
theorem strip_list (l:List Nat):Txt.strip (toS l)=toS (stripL l):=by
 unfold Txt.strip
 rw [stripBy_eq]
 unfold strSub stripHi stripLo
 simp only [if_true]
 congr 1
 apply Array.toList_inj.mp
 rw [Array.toList_extract,List.extract_eq_take_drop]
 show List.take _ (List.drop (l.takeWhile sp).length l)=dropR (l.dropWhile sp)
 rw [drop_take]
 unfold dropR
 have hl:(l.dropWhile sp).length=l.length - (l.takeWhile sp).length:=by rw [← drop_take,List.length_drop]
 generalize hm:l.dropWhile sp=m at hl
 have e:l.length - (m.reverse.takeWhile sp).length - (l.takeWhile sp).length=m.length - (m.reverse.takeWhile sp).length:=by
  rw [hl]
  omega
 show List.take (l.length - (m.reverse.takeWhile sp).length - (l.takeWhile sp).length) m=_
 rw [e,← drop_take m.reverse,List.reverse_drop,List.reverse_reverse,List.length_reverse]
theorem dropR_mid {A R:List Nat} {c:Nat} (hc:sp c=false):dropR (A++c :: R)=A++c :: dropR R:=by
 unfold dropR
 rw [List.reverse_append,List.reverse_cons,List.append_assoc,List.dropWhile_append]
 split
 ·next h =>
  rw [List.isEmpty_iff] at h
  rw [h]
  show ((List.dropWhile sp (c :: A.reverse))).reverse=_
  rw [List.dropWhile_cons,hc]
  simp
 ·rw [List.reverse_append]
  simp
theorem dropL_all:∀ {q:List Nat},(∀ c∈q,sp c=true)→q.dropWhile sp=[]
 | [],_=>rfl
 | a :: q,h=>by
  rw [List.dropWhile_cons,h a (.head _)]
  exact dropL_all fun c hc=>h c (.tail _ hc)
theorem dropR_all {q:List Nat} (hq:∀ c∈q,sp c=true):dropR q=[]:=by
 unfold dropR
 rw [dropL_all fun c hc=>hq c (List.mem_reverse.mp hc)];rfl
theorem dropL_pre {p R:List Nat} {c:Nat} (hp:∀ c∈p,sp c=true) (hc:sp c=false):(p++c :: R).dropWhile sp=c :: R:=by
 rw [List.dropWhile_append,dropL_all hp]
 simp [hc]
noncomputable def Ends (c:List Nat):Prop:=(∃ a r,c=a :: r∧sp a=false)∧∃ r b,c=r++[b]∧sp b=false
theorem Ends.left {c R:List Nat} (h:Ends c) {p:List Nat} (hp:∀ c∈p,sp c=true):(p++(c++R)).dropWhile sp=c++R:=by
 refine xA h fun z'1 _=>?_;try clear h;refine xEEA z'1 fun a r q'2 ha=>?_;subst q'2
 exact dropL_pre hp ha
theorem Ends.right {c A q:List Nat} (h:Ends c) (hq:∀ c∈q,sp c=true):dropR (A++(c++q))=A++c:=by
 refine xAEEA h fun _ r b q'1 hb=>?_;try clear h;subst q'1
 rw [List.append_assoc r [b] q,List.singleton_append,← List.append_assoc A r,dropR_mid hb,dropR_all hq,List.append_assoc]
theorem Ends.strip {c p q:List Nat} (h:Ends c) (hp:∀ c∈p,sp c=true) (hq:∀ c∈q,sp c=true):stripL (p++(c++q))=c:=by
 unfold stripL
 rw [h.left hp]
 exact h.right (A:=[]) hq
inductive Shape:List Nat→List (List Nat)→List Nat→Prop
 | none {q:List Nat}:(∀ c∈q,sp c=true)→Shape q [] []
 | last {p v q:List Nat}:(∀ c∈p,sp c=true)→(∀ c∈q,sp c=true)→Ends v→(∀ c∈v,c≠61)→Shape (p++(v++q)) [] v
 | more {p c q R v:List Nat} {cs:List (List Nat)}:(∀ c∈p,sp c=true)→(∀ c∈q,sp c=true)→Ends c→(∀ a∈c,a≠61)→Shape R cs v→Shape (p++(c++(q++61 :: R))) (c :: cs) v
theorem sp61:sp 61=false:=by decide +kernel
theorem sp_ne {q:List Nat} (hq:∀ c∈q,sp c=true):∀ c∈q,c≠61:=fun c hc e=>by
 have:=hq c hc
 rw [e,sp61] at this;cases this
theorem Shape.dropR {l v:List Nat} {cs:List (List Nat)} (h:Shape l cs v):Shape (dropR l) cs v:=by
 induction h with
 | none hq=>rw [dropR_all hq];exact .none (fun c hc=>nomatch hc)
 | @last p v q hp hq he h6 =>
  rw [he.right hq]
  have:=Shape.last (q:=[]) hp (fun c hc=>nomatch hc) he h6
  rwa [List.append_nil] at this
 | @more p c q R v cs hp hq he h6 _ ih =>
  have e:p++(c++(q++61 :: R))=(p++(c++q))++61 :: R:=by simp
  rw [e,dropR_mid sp61]
  have:=Shape.more hp hq he h6 ih
  simpa using this
theorem Shape.dropL {l v:List Nat} {cs:List (List Nat)} (h:Shape l cs v):Shape (l.dropWhile sp) cs v:=by
 cases h with
 | none hq=>rw [dropL_all hq];exact .none (fun c hc=>nomatch hc)
 | @last p _ q hp hq he h6 =>
  rw [he.left hp]
  exact Shape.last (p:=[]) (fun c hc=>nomatch hc) hq he h6
 | @more p c q R _ cs hp hq he h6 hR =>
  rw [he.left hp]
  exact Shape.more (p:=[]) (fun c hc=>nomatch hc) hq he h6 hR
theorem Shape.strip {l v:List Nat} {cs:List (List Nat)} (h:Shape l cs v):Shape (stripL l) cs v:=h.dropL.dropR
theorem Shape.value {l v:List Nat} (h:Shape l [] v):stripL l=v:=by
 cases h with
 | none hq=>unfold stripL;rw [dropL_all hq];rfl
 | last hp hq he _=>exact he.strip hp hq
theorem Shape.value_ne {l v:List Nat} (h:Shape l [] v):∀ c∈v,c≠61:=by
 cases h with
 | none hq=>exact fun c hc=>nomatch hc
 | last _ _ _ h6=>exact h6
theorem stripL_len (l:List Nat):(stripL l).length≤l.length:=by
 have:=len_strip (toS l)
 rw [strip_list] at this
 exact this
theorem shape_next {l v c:List Nat} {cs:List (List Nat)} (h:Shape l (c :: cs) v) (hl:l.length + 2≤sizeLine) (hc:PrepOk (toS c))
  (ih:∀ R,Shape R cs v→R.length + 2≤sizeLine→Peels (toS (stripL R)) (cs.map fun c=>prepF (toS c)) (toS v)) :
  Peels (toS l) ((c :: cs).map fun c=>prepF (toS c)) (toS v):=by
 cases h with
 | @more p _ q R _ _ hp hq he h6 hR =>
  have e:toS (p++(c++(q++61 :: R)))=⟨(toS (p++(c++q))).cps++#[61]++(toS R).cps⟩:=by simp
  have hs:Txt.strip (toS (p++(c++q)))=toS c:=by rw [strip_list,he.strip hp hq]
  have ct:Cut (toS (p++(c++(q++61 :: R)))) (some (toS (p++(c++q)),toS R)):=by
   show Txt.splitMax _ ("=":Str) 1=_
   rw [e]
   refine cut_at fun a ha=>?_
   have:a∈p++(c++q):=ha
   rcases List.mem_append.mp this with h | h
   ·exact sp_ne hp a h
   ·rcases List.mem_append.mp h with h | h
    ·exact h6 a h
    ·exact sp_ne hq a h
  have A:=Peels.next (x:=toS (p++(c++(q++61 :: R)))) hl ct (by rw [hs];exact hc) (by
   rw [strip_list]
   refine ih R hR ?_
   have:R.length≤(p++(c++(q++61 :: R))).length:=by simp;omega
   omega)
  rw [hs] at A
  exact A
theorem shape_peels:∀ (cs:List (List Nat)) {v:List Nat} (R:List Nat),(∀ c∈cs,PrepOk (toS c))→Shape R cs v→R.length + 2≤sizeLine→Peels (toS (stripL R)) (cs.map fun c=>prepF (toS c)) (toS v)
 | [],v,R,_,h,hl=>by
  rw [h.value]
  refine .stop ?_ ⟨_,cut_none fun c hc=>h.value_ne c hc⟩
  have:=stripL_len R
  rw [h.value] at this
  show v.length + 2≤_
  omega
 | c :: cs,v,R,hc,h,hl=>shape_next h.strip (by have:=stripL_len R;omega) (hc c (.head _)) fun R hR hl=>shape_peels cs R (fun c h=>hc c (.tail _ h)) hR hl
theorem Shape.peels {l v c:List Nat} {cs:List (List Nat)} (h:Shape l (c :: cs) v) (hl:l.length + 2≤sizeLine) (hc:∀ a∈c :: cs,PrepOk (toS a)) :
  Peels (toS l) ((c :: cs).map fun c=>prepF (toS c)) (toS v) :=
 shape_next h hl (hc c (.head _)) fun R hR hl=>shape_peels cs R (fun c h=>hc c (.tail _ h)) hR hl
noncomputable def signs7:List Str:="" :: signs6.map fun i=>(⟨#[i.toNat]⟩:Str)
noncomputable def pieces:List Str:=hiddens++spell.flatten++signs7
noncomputable def goodC (c:Nat):Bool:=!sp c && (!(c == 61) && (okB3 c && decide ((b3F c).length≤4)))
theorem pieces_ok:∀ x∈pieces,(x.cps.toList.all goodC && decide (x.length≤4))=true:=by decide +kernel
theorem blanks_ok:∀ x∈blanks,x.cps.toList.all sp=true:=by decide +kernel
theorem hiddens_prep:∀ x∈hiddens,prepL x.cps.toList=[]:=by decide +kernel
theorem forms_prep:∀ fs∈spell,∀ x∈fs,prepF x=fs.getD 0 ""∧x.length≠0:=by decide +kernel
theorem signs_prep:∀ x∈signs7,prepF x=x:=by decide +kernel
theorem heads_prep:∀ x∈heads4,prepF x=x∧forbF x.cps.toList=[]∧x.length≠0∧x∈pieces:=by decide +kernel
theorem signs_forb:∀ i,i < 6→(forbC (signs6.getD i 0).toNat).headD 0=tables6.getD i 0∧tables6.getD i 0≠0∧forbC (signs6.getD i 0).toNat≠[]:=by decide +kernel
theorem values_shape:∀ x∈values4,(x.cps.toList.all fun c=>!(c == 61))=true∧(x.cps.toList=[]∨(sp (x.cps.toList.headD 0)=false∧sp (x.cps.toList.getLastD 0)=false)):=by decide +kernel
theorem foldl_glue (g:Array Nat):∀ (ls:List Str) (acc:Array Nat),(ls.foldl (fun acc p=>acc++g++p.cps) acc).toList=acc.toList++ls.flatMap fun p=>g.toList++p.cps.toList
 | [],acc=>by exact (List.append_nil _).symm
 | p :: ls,acc=>by
  rw [List.foldl_cons,foldl_glue g ls]
  simp
theorem glued0 (ls:List Str):(glued "" ls).cps.toList=ls.flatMap fun p=>p.cps.toList:=by
 unfold glued
 cases ls with
 | nil=>rfl
 | cons p ls =>
  show (List.foldl _ p.cps ls).toList=_
  rw [foldl_glue,List.flatMap_cons]
  congr 1
theorem glued_one (p:Str):(glued "=" [p]).cps.toList=p.cps.toList:=rfl
theorem glued_two (p q:Str) (ls:List Str):(glued "=" (p :: q :: ls)).cps.toList=p.cps.toList++61 :: (glued "=" (q :: ls)).cps.toList:=by
 unfold glued
 show (List.foldl _ p.cps (q :: ls)).toList=_++61 :: (List.foldl _ q.cps ls).toList
 rw [foldl_glue,foldl_glue,List.flatMap_cons]
 rw [show (("=":Str).cps).toList=[61] by rw [eq_sign]]
 rfl
noncomputable def prepC (l:List Nat):List Nat:=(prepL l).flatMap fun p=>p.cps.toList
theorem prepF_is (l:List Nat):prepF (toS l)=toS (prepC l):=by
 show (⟨(glued "" (prepL l)).cps⟩:Str)=_
 congr 1
 apply Array.toList_inj.mp
 rw [glued0];rfl
theorem prepC_append (a b:List Nat):prepC (a++b)=prepC a++prepC b:=by simp [prepC,prepL]
theorem prepL_mem {l:List Nat} {x:Str} (h:x∈prepL l):∃ c∈l,x=b3F c:=by
 refine xEA (List.mem_map.mp h) fun c hc e=>?_
 exact ⟨c,(List.mem_filter.mp hc).1,e.symm⟩
theorem goodC_is {c:Nat} (h:goodC c=true):sp c=false∧c≠61∧okB3 c=true∧(b3F c).length≤4:=by
 unfold goodC at h
 simpa using h
theorem good_len {l:List Nat} (h:l.all goodC=true):∀ x∈prepL l,x.length≤4:=fun x hx=>by
 refine xEA (prepL_mem hx) fun c hc q'1=>?_;subst q'1
 exact (goodC_is (List.all_eq_true.mp h c hc)).2.2.2
theorem prepL_len (l:List Nat):(prepL l).length≤l.length:=by
 unfold prepL;rw [List.length_map];exact List.length_filter_le ..
theorem prep_ok {l:List Nat} (h:l.all goodC=true) (hl:l.length≤100):PrepOk (toS l) where
 ok c hc:=(goodC_is (List.all_eq_true.mp h c hc)).2.2.1
 sz:=Nat.le_trans hl (by decide)
 tl:=by
  have key:∀ (ls:List Str) (n:Nat),(∀ x∈ls,x.length≤4)→ls.foldl (fun a x=>a + x.length + Str.length "") n≤n + 4 * ls.length:=by
   intro ls
   induction ls with
   | nil=>intro n _;exact Nat.le_refl _
   | cons x ls ih =>
    intro n h
    rw [List.foldl_cons]
    have h1:=ih (n + x.length + Str.length "") fun y hy=>h y (.tail _ hy)
    have h2:=h x (.head _)
    have h3:Str.length ""=0:=rfl
    rw [h3] at h1 ⊢
    simp only [List.length_cons]
    omega
  have A:=key (prepL l) 0 (good_len h)
  have B:=prepL_len l
  show tooLong ((prepL l).toArray.foldl _ 0)=false
  rw [List.foldl_toArray]
  unfold tooLong
  refine decide_eq_false ?_
  have C:400≤sizeLine:=by decide
  omega
 out:=by
  rw [prepF_is]
  show (prepC l).toArray.size≤_
  have key:∀ ls:List Str,(∀ x∈ls,x.length≤4)→(ls.flatMap fun p=>p.cps.toList).length≤4 * ls.length:=by
   intro ls
   induction ls with
   | nil=>intro _;exact Nat.le_refl _
   | cons x ls ih =>
    intro h
    have h1:=ih fun y hy=>h y (.tail _ hy)
    have h2:x.cps.size≤4:=h x (.head _)
    simp only [List.flatMap_cons,List.length_append,List.length_cons,Array.length_toList]
    omega
  have A:=key (prepL l) (good_len h)
  have B:=prepL_len l
  have C:400≤sizeLine:=by decide
  show (prepC l).length≤_
  unfold prepC
  omega
theorem good_ends {l:List Nat} (h:l.all goodC=true) (hn:l≠[]):Ends l:=by
 refine ⟨?_,?_⟩
 ·cases l with
  | nil=>exact absurd rfl hn
  | cons a r=>exact ⟨a,r,rfl,(goodC_is (List.all_eq_true.mp h a (.head _))).1⟩
 ·refine ⟨l.dropLast,l.getLast hn,(List.dropLast_concat_getLast hn).symm,?_⟩
  exact (goodC_is (List.all_eq_true.mp h _ (List.getLast_mem hn))).1
structure WordIs (f:Str) (c:List Nat):Prop where
 is:∃ p q,(∀ c∈p,sp c=true)∧(∀ c∈q,sp c=true)∧f.cps.toList=p++(c++q)
 good:c.all goodC=true
 ne:c≠[]
 len:c.length≤100
theorem shape_text {w:Str} {v:List Nat} (hw:Shape w.cps.toList [] v):∀ {fs:List Str} {cs:List (List Nat)},All2 WordIs fs cs→Shape (glued "=" (fs++[w])).cps.toList cs v
 | [],_,.nil=>hw
 | f :: fs,c :: cs,.cons h hs=>by
  refine xEEAA h.is fun p q hp hq e=>?_
  have e2:(glued "=" (f :: fs++[w])).cps.toList=f.cps.toList++61 :: (glued "=" (fs++[w])).cps.toList:=by
   cases fs with
   | nil=>exact glued_two f w []
   | cons g fs=>exact glued_two f g (fs++[w])
  rw [e2,e]
  have:=Shape.more hp hq (good_ends h.good h.ne) (fun a ha=>(goodC_is (List.all_eq_true.mp h.good a ha)).2.1) (shape_text hw hs)
  simpa using this
theorem getD_in {l:List Str} {i:Nat} (h:i < l.length):l.getD i ""∈l:=by
 have e:l.getD i ""=l[i]:=by exact getDlt ‹_›
 rw [e];exact List.getElem_mem h
theorem app_list (a b:Str):(a++b).cps.toList=a.cps.toList++b.cps.toList:=by
 show (a.cps++b.cps).toList=_
 simp
theorem spell_four:∀ fs∈spell,fs.length=4:=by decide
theorem forms_in (x k:Nat):rowForms x k∈spell:=by
 have h:rowW x k < spell.length:=rowW_lt x k
 unfold rowForms
 have e:spell.getD (rowW x k) []=spell[rowW x k]:=by exact getDlt ‹_›
 rw [e];exact List.getElem_mem h
theorem piece_len {x:Str} (h:x∈pieces):x.cps.toList.length≤4:=by
 have:=pieces_ok x h
 rw [Bool.and_eq_true,decide_eq_true_eq] at this
 simpa [Str.length] using this.2
theorem piece_good {x:Str} (h:x∈pieces):x.cps.toList.all goodC=true:=by
 have:=pieces_ok x h
 rw [Bool.and_eq_true] at this
 exact this.1
theorem hid_in {x:Str} (h:x∈hiddens):x∈pieces:=List.mem_append_left _ (List.mem_append_left _ h)
theorem form_in {fs:List Str} {x:Str} (hf:fs∈spell) (h:x∈fs):x∈pieces:=List.mem_append_left _ (List.mem_append_right _ (List.mem_flatten.mpr ⟨fs,hf,h⟩))
theorem sign_in {x:Str} (h:x∈signs7):x∈pieces:=List.mem_append_right _ h
theorem blanks_short:∀ x∈blanks,x.cps.toList.length≤4:=by decide +kernel
theorem sp_of {q:List Nat} (h:q.all sp=true):∀ c∈q,sp c=true:=fun c hc=>List.all_eq_true.mp h c hc
theorem word_field {forms:List Str} {n:Nat} {sign:Str} (hf:forms∈spell) (hs:sign∈signs7) :
  ∃ c,WordIs (fieldF forms n sign) c∧prepF (toS c)=forms.getD 0 ""++sign∧(fieldF forms n sign).length≤100:=by
 have m4:∀ k,k % 4 < 4:=fun k=>Nat.mod_lt _ (by decide)
 have B:=getD_in (l:=blanks) (i:=n / 64 % 4) (m4 _)
 have H1:=getD_in (l:=hiddens) (i:=n / 4 % 4) (m4 _)
 have H2:=getD_in (l:=hiddens) (i:=n / 16 % 4) (m4 _)
 have F:=getD_in (l:=forms) (i:=n % 4) (by rw [spell_four _ hf];exact m4 _)
 unfold fieldF
 generalize blanks.getD (n / 64 % 4) ""=b at B
 generalize hiddens.getD (n / 4 % 4) ""=h1 at H1
 generalize hiddens.getD (n / 16 % 4) ""=h2 at H2
 generalize forms.getD (n % 4) ""=f at F
 have e:(((((b++h1)++f)++sign)++h2)++b).cps.toList=b.cps.toList++((h1.cps.toList++(f.cps.toList++(sign.cps.toList++h2.cps.toList)))++b.cps.toList):=by
  simp only [app_list,List.append_assoc]
 have l0:=blanks_short b B
 have l1:=piece_len (hid_in H1)
 have l2:=piece_len (hid_in H2)
 have l3:=piece_len (form_in hf F)
 have l4:=piece_len (sign_in hs)
 refine ⟨h1.cps.toList++(f.cps.toList++(sign.cps.toList++h2.cps.toList)),⟨⟨_,_,sp_of (blanks_ok b B),sp_of (blanks_ok b B),e⟩,?_,?_,?_⟩,?_,?_⟩
 ·simp only [List.all_append,piece_good (hid_in H1),piece_good (hid_in H2),piece_good (form_in hf F),piece_good (sign_in hs),Bool.and_self]
 ·intro hn
  have h0:=(forms_prep forms hf f F).2
  have:f.cps.toList=[]:=by
   have:=List.append_eq_nil_iff.mp hn
   exact (List.append_eq_nil_iff.mp this.2).1
  exact h0 (by have:=congrArg List.length this;simpa [Str.length] using this)
 ·simp only [List.length_append];omega
 ·rw [prepF_is,prepC_append,prepC_append,prepC_append]
  have z1:prepC h1.cps.toList=[]:=by unfold prepC;rw [hiddens_prep h1 H1];rfl
  have z2:prepC h2.cps.toList=[]:=by unfold prepC;rw [hiddens_prep h2 H2];rfl
  have z3:toS (prepC f.cps.toList)=forms.getD 0 "":=by rw [← prepF_is];exact (forms_prep forms hf f F).1
  have z4:toS (prepC sign.cps.toList)=sign:=by rw [← prepF_is];exact signs_prep sign hs
  rw [z1,z2,List.nil_append,List.append_nil]
  have y3:prepC f.cps.toList=(forms.getD 0 "").cps.toList:=by rw [← z3]
  have y4:prepC sign.cps.toList=sign.cps.toList:=congrArg (fun s:Str=>s.cps.toList) z4
  rw [y3,y4,← app_list]
 ·have:=congrArg List.length e
  rw [Array.length_toList] at this
  show (_:Str).cps.size≤100
  rw [this]
  simp only [List.length_append]
  omega
theorem word_head {h:Str} (hh:h∈heads4):WordIs h h.cps.toList∧prepF (toS h.cps.toList)=h∧h.length≤100:=by
 refine xAAA (heads_prep h hh) fun h1 _ h3 h4=>?_
 have l:=piece_len h4
 refine ⟨⟨⟨[],[],(fun c hc=>nomatch hc),(fun c hc=>nomatch hc),by simp⟩,piece_good h4,?_,by exact Nat.le_trans ‹_› (by decide)⟩,h1,?_⟩
 ·intro hn;exact h3 (by have:=congrArg List.length hn;simpa [Str.length] using this)
 ·exact (heads4_ok h hh).2.1
theorem value_row (x:Nat):Shape (((" ":Str)++rowVal x)++"\t").cps.toList [] (rowVal x).cps.toList∧Shape (rowVal x).cps.toList [] (rowVal x).cps.toList:=by
 refine xA (values_shape _ (val_in x)) fun h1 h2=>?_
 have e:(((" ":Str)++rowVal x)++"\t").cps.toList=[32]++((rowVal x).cps.toList++[9]):=by
  rw [app_list,app_list]
  rw [show (" ":Str).cps.toList=[32] by decide +kernel,show ("\t":Str).cps.toList=[9] by decide +kernel]
  simp
 rw [e]
 generalize (rowVal x).cps.toList=l at h1 h2
 have n6:∀ c∈l,c≠61:=fun c hc=>by simpa using List.all_eq_true.mp h1 c hc
 have s32:sp 32=true:=by decide +kernel
 have s9:sp 9=true:=by decide +kernel
 rcases h2 with rfl | ⟨ha,hb⟩
 ·exact ⟨.none (by intro c hc;simp at hc;rcases hc with rfl | rfl <;> assumption),.none (fun c hc=>nomatch hc)⟩
 ·cases hl:l with
  | nil=>exact ⟨.none (by intro c hc;simp at hc;rcases hc with rfl | rfl <;> assumption),.none (fun c hc=>nomatch hc)⟩
  | cons a r =>
   rw [← hl]
   have hn:l≠[]:=by rw [hl];exact List.cons_ne_nil _ _
   have E:Ends l:=⟨⟨a,r,hl,by rw [hl] at ha;exact ha⟩,l.dropLast,l.getLast hn,(List.dropLast_concat_getLast hn).symm,by
    rw [List.getLastD_eq_getLast?,List.getLast?_eq_some_getLast hn] at hb;exact hb⟩
   refine ⟨.last (fun c hc=>by rw [List.mem_singleton.mp hc];exact s32) (fun c hc=>by rw [List.mem_singleton.mp hc];exact s9) E n6,?_⟩
   have:=Shape.last (p:=[]) (q:=[]) (fun c hc=>nomatch hc) (fun c hc=>nomatch hc) E n6
   simpa using this
theorem glued_len:∀ (ls:List Str),(∀ f∈ls,f.length≤100)→(glued "=" ls).cps.toList.length≤101 * ls.length
 | [],_=>by show (0:Nat)≤_;exact Nat.le_refl _
 | [p],h=>by
  have:=h p (.head _)
  rw [glued_one,Array.length_toList]
  have h2:p.cps.size≤100:=this
  simp only [List.length_cons,List.length_nil]
  exact Nat.le_succ_of_le ‹_›
 | p :: q :: ls,h=>by
  have h1:=glued_len (q :: ls) fun f hf=>h f (.tail _ hf)
  have h2:p.cps.size≤100:=h p (.head _)
  rw [glued_two]
  simp only [List.length_append,List.length_cons,Array.length_toList] at h1 ⊢
  omega
theorem forb_glued (ls:List Str):forbF (glued "" ls).cps.toList=ls.flatMap fun p=>forbF p.cps.toList:=by
 rw [glued0]
 unfold forbF
 rw [List.flatMap_assoc]
theorem forb_app (a b:Str):forbF (a++b).cps.toList=forbF a.cps.toList++forbF b.cps.toList:=by
 rw [app_list];simp [forbF]
theorem reads_of {fs:List Str} {cs:List (List Nat)} {w v:Str} {ns:List Str} (h:All2 WordIs fs cs) (hw:Shape w.cps.toList [] v.cps.toList) (hn:cs.map (fun c=>prepF (toS c))=ns) (h1:ns≠[]) (h3:ns.length≤3)
  (hl:∀ f∈fs++[w],f.length≤100) (hs:∀ y∈ns,y.length≤100) (nz:forbF (glued "" ns).cps.toList≠[]→(forbF (glued "" ns).cps.toList).headD 0≠0) :
  ReadsAs (glued "=" (fs++[w])) ⟨ns,v,forbF (glued "" ns).cps.toList⟩:=by
 have S:=shape_text hw h
 have al:∀ {fs:List Str} {cs:List (List Nat)},All2 WordIs fs cs→fs.length=cs.length∧∀ c∈cs,PrepOk (toS c):=by
  intro fs cs h
  induction h with
  | nil=>exact ⟨rfl,fun c hc=>nomatch hc⟩
  | cons h _ ih =>
   refine ⟨by simp [ih.1],fun c hc=>?_⟩
   rcases List.mem_cons.mp hc with rfl | hc
   ·exact prep_ok h.good h.len
   ·exact ih.2 c hc
 refine xA (al h) fun hlen hok=>?_
 have hcl:cs.length=ns.length:=by rw [← hn,List.length_map]
 have hz:=glued_len _ hl
 rw [List.length_append,hlen,hcl] at hz
 simp only [List.length_cons,List.length_nil] at hz
 have big:1000≤sizeLine:=by decide
 refine ⟨?_,rfl,nz,?_,hs,?_⟩
 ·cases cs with
  | nil=>exact absurd hn.symm h1
  | cons c cs =>
   have P:=S.peels (by omega) hok
   rw [hn] at P
   exact P
 ·show ns.length≤1000;exact Nat.le_trans ‹_› (by decide)
 ·show (glued "" ns).cps.size≤1000
  rw [← Array.length_toList,glued0]
  have key:∀ ls:List Str,(∀ x∈ls,x.length≤100)→(ls.flatMap fun p=>p.cps.toList).length≤100 * ls.length:=by
   intro ls
   induction ls with
   | nil=>intro _;exact Nat.le_refl _
   | cons x ls ih =>
    intro h
    have h1:=ih fun y hy=>h y (.tail _ hy)
    have h2:x.cps.size≤100:=h x (.head _)
    simp only [List.flatMap_cons,List.length_append,List.length_cons,Array.length_toList]
    omega
  have:=key ns hs
  omega
noncomputable def rowNs (x:Nat):List Str:=(List.range (rowN x)).map fun k=>(rowForms x k).getD 0 ""++(if k + 1=rowN x then rowSign x else "")
theorem rowSign_in (x:Nat):rowSign x∈signs7:=by
 unfold rowSign signs7
 split
 ·next h =>
  have h2:rowD x < 16:=Nat.mod_lt _ (by decide)
  have hi:rowD x - 10 < signs6.length:=by show _ < 6;omega
  refine List.mem_cons_of_mem _ (List.mem_map.mpr ⟨signs6[rowD x - 10],List.getElem_mem hi,?_⟩)
  simp [hi]
 ·exact .head _
theorem rowSign_short (x:Nat):(rowSign x).length≤4:=by
 have:=piece_len (sign_in (rowSign_in x))
 simpa [Str.length] using this
theorem forb_ns (x:Nat):forbF (glued "" (rowNs x)).cps.toList=forbF (rowSign x).cps.toList:=by
 rw [forb_glued]
 unfold rowNs
 rw [List.flatMap_map]
 have e:(fun k=>forbF ((rowForms x k).getD 0 ""++(if k + 1=rowN x then rowSign x else "")).cps.toList)=fun k=>if k + 1=rowN x then forbF (rowSign x).cps.toList else []:=by
  funext k
  rw [forb_app,(heads_prep _ (head_in x k)).2.1,List.nil_append]
  split <;> rfl
 rw [e]
 have:∃ m,rowN x=m + 1:=⟨x % 3,by unfold rowN;exact Nat.add_comm _ _⟩
 refine xE this fun m hm=>?_
 rw [hm,List.range_succ,List.flatMap_append]
 have z:(List.range m).flatMap (fun k=>if k + 1=m + 1 then forbF (rowSign x).cps.toList else [])=[]:=List.flatMap_eq_nil_iff.mpr fun k hk=>by
  have:=List.mem_range.mp hk
  rw [if_neg (by omega)]
 rw [z]
 simp
theorem forb_sign (x:Nat):(forbF (rowSign x).cps.toList).headD 0=rowTable x∧(forbF (rowSign x).cps.toList=[] ↔ rowTable x=0):=by
 unfold rowSign rowTable
 by_cases h:10≤rowD x
 ·rw [if_pos h,if_pos h]
  have h2:rowD x < 16:=Nat.mod_lt _ (by decide)
  refine xAA (signs_forb (rowD x - 10) (by omega)) fun a b c=>?_
  have e:forbF (⟨#[(signs6.getD (rowD x - 10) 0).toNat]⟩:Str).cps.toList=forbC (signs6.getD (rowD x - 10) 0).toNat:=by simp [forbF]
  rw [e]
  exact ⟨a,fun h=>absurd h c,fun h=>absurd h b⟩
 ·rw [if_neg h,if_neg h]
  exact ⟨rfl,fun _=>rfl,fun _=>rfl⟩
theorem row_words_are (x place:Nat):∀ ks:List Nat,∃ cs,All2 WordIs (ks.map (rowField x place)) cs∧cs.map (fun c=>prepF (toS c))=ks.map (fun k=>(rowForms x k).getD 0 ""++(if k + 1=rowN x then rowSign x else ""))∧∀ f∈ks.map (rowField x place),f.length≤100
 | []=>⟨[],.nil,rfl,fun f hf=>nomatch hf⟩
 | k :: ks=>by
  refine xEAA (row_words_are x place ks) fun cs h1 h2 h3=>?_
  have hs:(if k + 1=rowN x then rowSign x else "")∈signs7:=by
   split
   ·exact rowSign_in x
   ·exact .head _
  refine xEAA (word_field (n:=x / 12288 + 85 * k + 7 * place) (forms_in x k) hs) fun c w p l=>?_
  refine ⟨c :: cs,.cons w h1,by rw [List.map_cons,List.map_cons,p,h2],fun f hf=>?_⟩
  rcases List.mem_cons.mp hf with rfl | hf
  ·exact l
  ·exact h3 f hf
theorem head_words_are:∀ hs:List Str,(∀ h∈hs,h∈heads4)→∃ cs,All2 WordIs hs cs∧cs.map (fun c=>prepF (toS c))=hs∧∀ f∈hs,f.length≤100
 | [],_=>⟨[],.nil,rfl,fun f hf=>nomatch hf⟩
 | k :: ks,hh=>by
  refine xEAA (head_words_are ks fun h hk=>hh h (.tail _ hk)) fun cs h1 h2 h3=>?_
  refine xAA (word_head (hh k (.head _))) fun w p l=>?_
  refine ⟨_ :: cs,.cons w h1,by rw [List.map_cons,p,h2],fun f hf=>?_⟩
  rcases List.mem_cons.mp hf with rfl | hf
  ·exact l
  ·exact h3 f hf
theorem rowN_pos (x:Nat):1≤rowN x:=by unfold rowN;exact Nat.le_add_right _ _
theorem str_app_len (a b:Str):(a++b).length=a.length + b.length:=by
 show (a.cps++b.cps).size=a.cps.size + b.cps.size
 exact Array.size_append
noncomputable def rowIs (x:Nat):RowD:=⟨rowNs x,rowVal x,forbF (glued "" (rowNs x)).cps.toList⟩
theorem row_reads (x place:Nat):ReadsAs (rowText x place) (rowIs x):=by
 refine xEAA (row_words_are x place (List.range (rowN x))) fun cs h1 h2 h3=>?_
 have hl:(rowNs x).length=rowN x:=by simp [rowNs]
 have np:=rowN_pos x
 refine reads_of h1 (value_row x).1 h2 ?_ ?_ ?_ ?_ ?_
 ·intro h;rw [h] at hl;simp at hl;omega
 ·rw [hl];exact rowN_le x
 ·intro f hf
  rcases List.mem_append.mp hf with hf | hf
  ·exact h3 f hf
  ·rw [List.mem_singleton.mp hf,str_app_len,str_app_len]
   have:∀ v∈values4,v.length≤50:=by decide +kernel
   have:=this _ (val_in x)
   have e1:(" ":Str).length=1:=by decide +kernel
   have e2:("\t":Str).length=1:=by decide +kernel
   omega
 ·intro y hy
  refine xEA (List.mem_map.mp hy) fun k _ q'1=>?_;subst q'1
  rw [str_app_len]
  have a:=piece_len (heads_prep _ (head_in x k)).2.2.2
  rw [Array.length_toList] at a
  have b:=rowSign_short x
  have a':((rowForms x k).getD 0 "").length≤4:=a
  split
  ·omega
  ·have:Str.length ""=0:=rfl
   exact Nat.le_trans ‹_› (by decide)
 ·rw [forb_ns]
  intro h
  rw [(forb_sign x).1]
  exact fun e=>h ((forb_sign x).2.mpr e)
theorem row_good {x:Nat} (h:rowTable x=0):rowNs x=rowPath x:=by
 have hs:rowSign x="":=by
  unfold rowSign
  rw [if_neg]
  intro h10
  have h2:rowD x < 16:=Nat.mod_lt _ (by decide)
  refine xAA (signs_forb (rowD x - 10) (by omega)) fun _ b _=>?_
  unfold rowTable at h
  rw [if_pos h10] at h
  exact b h
 unfold rowNs rowPath
 refine List.map_congr_left fun k _=>?_
 have e:(if k + 1=rowN x then rowSign x else "")="":=by rw [hs];split <;> rfl
 rw [e]
 show (⟨_++_⟩:Str)=_
 generalize (rowForms x k).getD 0 ""=s
 have:s.cps++(("":Str)).cps=s.cps:=by
  apply Array.toList_inj.mp
  rw [Array.toList_append]
  show s.cps.toList++[]=_
  rw [List.append_nil]
 rw [this]
theorem law_first (script:List Int):∃ xs:List (Str × RowD),xs.map (·.1)=(lawD script).map (fun d=>rowText d.2 d.1)∧(∀ p∈xs,ReadsAs p.1 p.2)∧entsF (xs.map (·.2))=lawE script∧tabsF (xs.map (·.2))=(lawD script).map fun d=>rowTable d.2:=by
 refine ⟨(lawD script).map fun d=>(rowText d.2 d.1,rowIs d.2),?_,?_,?_,?_⟩
 ·rw [List.map_map];rfl
 ·intro p hp
  refine xEA (List.mem_map.mp hp) fun d _ q'1=>?_;subst q'1
  exact row_reads d.2 d.1
 ·unfold lawE goodF entsF
  rw [List.map_map,List.filterMap_map]
  refine congrArg (fun f=>(lawD script).filterMap f) (funext fun d=>?_)
  show (if forbF (glued "" (rowNs d.2)).cps.toList=[] then some (rowNs d.2,rowVal d.2) else none)=_
  rw [forb_ns]
  by_cases h:rowTable d.2=0
  ·rw [if_pos ((forb_sign d.2).2.mpr h),if_pos h,row_good h]
  ·rw [if_neg (fun e=>h ((forb_sign d.2).2.mp e)),if_neg h]
 ·unfold tabsF
  rw [List.map_map,List.map_map]
  refine List.map_congr_left fun d _=>?_
  show (forbF (glued "" (rowNs d.2)).cps.toList).headD 0=_
  rw [forb_ns];exact (forb_sign d.2).1
theorem path_forb (x:Nat):forbF (glued "" (rowPath x)).cps.toList=[]:=by
 rw [forb_glued]
 exact List.flatMap_eq_nil_iff.mpr fun y hy=>(heads_prep y (path_in y hy)).2.1
theorem path_reads (x:Nat):ReadsAs (glued "=" (rowPath x++[rowVal x])) ⟨rowPath x,rowVal x,forbF (glued "" (rowPath x)).cps.toList⟩:=by
 refine xEAA (head_words_are (rowPath x) fun h hh=>path_in h hh) fun cs h1 h2 h3=>?_
 have hl:(rowPath x).length=rowN x:=by simp [rowPath]
 have np:=rowN_pos x
 refine reads_of h1 (value_row x).2 h2 ?_ ?_ ?_ h3 ?_
 ·intro h;rw [h] at hl;simp at hl;omega
 ·rw [hl];exact rowN_le x
 ·intro f hf
  rcases List.mem_append.mp hf with hf | hf
  ·exact h3 f hf
  ·rw [List.mem_singleton.mp hf];exact (values4_ok _ (val_in x)).2
 ·rw [path_forb];exact fun h=>absurd rfl h
theorem law_again (script:List Int):∃ xs:List (Str × RowD),xs.map (·.1)=(lawDue script).map (fun d=>glued "=" (d.1++[d.2]))∧(∀ p∈xs,ReadsAs p.1 p.2)∧entsF (xs.map (·.2))=lawDue script∧firstsT (tabsF (xs.map (·.2)))=[]:=by
 have hin:=fun d (hd:d∈lawDue script)=>due_in hd
 generalize lawDue script=D at hin
 have fb:∀ d∈D,forbF (glued "" d.1).cps.toList=[]:=fun d hd=>by
  refine xE (hin d hd) fun x q'1=>?_;subst q'1
  exact path_forb x
 refine ⟨D.map fun d=>(glued "=" (d.1++[d.2]),⟨d.1,d.2,forbF (glued "" d.1).cps.toList⟩),?_,?_,?_,?_⟩
 ·rw [List.map_map];rfl
 ·intro p hp
  refine xEA (List.mem_map.mp hp) fun d hd q'1=>?_;subst q'1
  refine xE (hin d hd) fun x q'1=>?_;subst q'1
  exact path_reads x
 ·unfold entsF
  clear hin
  induction D with
  | nil=>rfl
  | cons d D ih =>
   rw [List.map_cons,List.map_cons,List.filterMap_cons]
   have h1:=fb d (.head _)
   have h2:=ih fun e he=>fb e (.tail _ he)
   dsimp only
   rw [if_pos h1,h2]
 ·unfold tabsF firstsT
  clear hin
  induction D with
  | nil=>rfl
  | cons d D ih =>
   rw [List.map_cons,List.map_cons,List.map_cons,List.foldl_cons]
   have h1:=fb d (.head _)
   have h2:=ih fun e he=>fb e (.tail _ he)
   dsimp only
   rw [h1]
   exact h2
theorem lawOk (script:List Int):LawOk script:=⟨law_first script,law_ents script,law_again script,law_dues script⟩
end Mine
namespace Mine
open PySem PySem.W PySem.Calls PyProof.Rows
noncomputable abbrev callerC:Ctx:=⟨.builtin "claim.caller" {},none,none,[],none⟩
theorem callerC_enter (c:Code) (p:Pos):HCb (callerC.enter c none p):=by
 show (((Code.builtin "claim.caller" {},p) :: []).map (·.1)).any Code.isCaller=true
 rfl
theorem caller_call {M:Model} {f:Value} {pos:List Value} {Q:Value→Shared→Prop} {E:Value→Shared→Prop} {s:Shared} {p:Pos}
  (hc:codeH M callerA (.call f ⟨pos,[]⟩) (fun r s'=>match r with | .ok (.ret v)=>Q v s' | .ok _=>False | .error e=>E e s') s) :
  Sem.wp M callerC (call f pos []) (fun a _ s'=>Q a s') (fun e _ s'=>E e s') p s:=by
 show Sem.wp M callerC (runValue (.call f ⟨pos,[]⟩)) _ _ p s
 rw [Sem.wp_runValue]
 exact hc _ p rfl (caller_in.enter _ none p (by intro x;cases x)) (callerC_enter _ p)
end Mine
namespace Mine
open PySem PySem.W PySem.Calls PyProof.Rows
variable {w : World} {ad : Adr} {r : Nat} {st st₁ st₂ st₃ : St} {env : Env} {loc loc₁ loc₂ loc₃ : Loc}
noncomputable def TCHc (w:World) (ad:Adr) (r:Nat) (a:Addr) (st:St) (as:List V) (v:V) (st':St):Prop :=
 ∀ (A:Around) (s:Shared) (μ:Mu) (xs:List Value) (Q:Value→Shared→Prop) (E:Value→Shared→Prop),AOk r A→HOut ad μ s.heap A→Sim w ad μ st s.heap→All2 (RV cPair μ s.heap) as xs →
  (∀ mv h' tk μ',Step ad.tabs [] μ s.heap μ' h'→Sim w ad μ' st' h'→RV cPair μ' h' v mv→Q mv { s with heap:=h',toks:=tk }) →
  codeH (model prog w) A (.call (.ref a) ⟨xs,[]⟩) (fun r s'=>match r with | .ok (.ret v)=>Q v s' | .ok _=>False | .error e=>E e s') s
theorem TCHc.fdo {fd:FuncData} {bd:List Stmt} {a:Addr} {ps:List Str} {as:List V} {v:V} (hf:FnFd ad a fd)
  (hbody:fd.body=.stmts bd) (hclo:fd.closure=[]) (hgl:fd.globals=mainGlobals) (hbl:fd.builtins=builtinsNs)
  (hbind:∀ (xs:List Value),xs.length=ps.length→∀ (A:Around) (E:Value→Shared→Prop) (s:Shared) (Q:List (Str × Value)→Shared→Prop),Base w ad s.heap→Q (ps.zip xs) s→wpAny (model prog w) A (bindArgs fd ⟨xs,[]⟩) Q E s)
  (hps:ps.Nodup) (hlen:as.length=ps.length)
  (hkind':∀ x∈ps,fd.scope.names.lookup x=some .local∨fd.scope.names.lookup x=some .cell)
  (hnd:((cellsFrom 0 fd.scope.names []).map (·.1)).Nodup)
  (body:∀ (L:Addr),THo w ad r (callEnvC fd L a) (ps.zip as) st bd v st₁)
  (hco:fd.scope.isCoroutine=false:=by rfl) (hgen:fd.scope.isGenerator=false:=by rfl) (hk:fd.scope.kind=.function:=by rfl) :
  TCHc w ad (r + 1) a st as v st₁:=by
 intro A s μ xs Q E hA HO S hxs k
 have hkind:∀ x∈ps,fd.scope.names.lookup x=some .local∨(fd.scope.names.lookup x=some .cell∧∀ n,((cellsFrom n fd.scope.names []).lookup x).isSome=true):=fun x hx=>(hkind' x hx).imp id fun q=>⟨q,fun n=>cells_some q⟩
 refine xAEEAAAA hf fun hat o c ho hd hcode hct hrec=>?_
 have hxl:xs.length=ps.length:=hxs.length.symm.trans hlen
 have hrec':s.heap.CodeRec fd.code fd.qualname:=by rw [hcode] at hrec ⊢;exact S.base.codeRec hct hrec
 refine (codeH_call_function hA.room (S.base.get hat ho) hd hco hgen hbody hrec' (hbind xs hxl _ _ _ _ S.base ?_))
 rw [hclo]
 refine wpAny_newFunctionEnv_cells hk ?_ fun env he s₁ X=>?_
 ·intro x hx
  have hm:x.1∈ps:=(List.of_mem_zip hx).1
  rcases hkind x.1 hm with h1 | h1
  ·exact .inl h1
  ·exact .inr ⟨h1.1,h1.2 _⟩
 ·subst he
  refine ⟨S.base.noLimit.keeps X.toInCall.keep,codeH_func ?_⟩
  refine xEE X.toInCall.same fun h₁ tk₁ q'1=>?_;subst q'1
  have hns:=X.toInCall.ns
  have hkeep:=X.toInCall.keep
  have hL:(callEnvC fd s.heap.objs.size a).locals=s.heap.objs.size:=rfl
  have hsz:s.heap.objs.size≤h₁.objs.size:=Nat.le_of_lt (Heap.Ns.lt (hL ▸ hns))
  have T:Step ad.tabs [] μ s.heap μ h₁:=.grow hsz hkeep
  have S₁:Sim w ad μ st h₁:=S.grow hsz hkeep
  have zip:All2 (LB μ h₁) (ps.zip as) (ps.zip xs):=by
   clear hps hkind hkind' hbind X hns hkeep hxl hlen body k
   induction hxs generalizing ps with
   | nil=>simp;exact .nil
   | cons hr _ ih=>cases ps with
    | nil=>simp;exact .nil
    | cons p ps=>exact .cons ⟨rfl,hr.up S T Loose.nil⟩ (ih (ps:=ps))
  have zn:((ps.zip as).map (·.1)).Nodup:=by rw [List.map_fst_zip (Nat.le_of_eq hlen.symm)];exact hps
  have hi:∀ {b:Addr},s.heap.objs.size≤b→b∉muts μ:=fun hb q=>absurd (muts_lt S q) (Nat.not_lt.mpr hb)
  have ht:∀ {b:Addr},s.heap.objs.size≤b→b∉ad.tabs:=fun hb q=>absurd (S.base.tabs _ q).1 (Nat.not_lt.mpr (Nat.le_trans S.base.size hb))
  have F:Frame ad μ h₁ (callEnvC fd s.heap.objs.size a) (ps.zip as):=by
   refine ⟨hk,hgl,hbl,⟨_,hns,fun x v e kk=>bindL_get zip zn e kk⟩,fun x v e kk=>?_,fun x d hm=>?_,X.apart,hi (Nat.le_refl _),ht (Nat.le_refl _),S.base.size⟩
   ·have hx:x∈ps:=by
     have:=mem_lookup e
     exact (List.of_mem_zip this).1
    refine xEA (bindC_get (m:=fun _=>none) zip zn e (k:=(callEnvC fd s.heap.objs.size a).kindOf) (fun q=>by rcases kk with kk | kk <;> (rw [kk] at q;cases q))) fun mv e1 rv=>?_
    rcases hkind x hx with h1 | h1
    ·rcases kk with kk | kk
     ·have:fd.scope.names.lookup x=some .cell:=kk
      rw [h1] at this;cases this
     ·have:fd.scope.names.lookup x=some .free:=kk
      rw [h1] at this;cases this
    ·refine xE (Option.isSome_iff_exists.mp (h1.2 (s.heap.objs.size + 1))) fun d hd'=>?_
     have z:=X.cell x d hd'
     exact ⟨d,mv,hd',by rw [← e1];exact z,rv⟩
   ·have ab:s.heap.objs.size < d:=X.above x d hm
    have nd:((cellsFrom (s.heap.objs.size + 1) fd.scope.names []).map (·.1)).Nodup:=cellsFrom_names fd.scope.names 0 (s.heap.objs.size + 1) [] [] rfl ▸ hnd
    exact ⟨⟨_,X.cell x d (lookup_of_mem_nodup nd hm)⟩,hi (Nat.le_of_lt ab),ht (Nat.le_of_lt ab),fun _ _=>Nat.le_trans S.base.size (Nat.le_of_lt ab),Nat.ne_of_gt ab⟩
  have ends:∀ b∈own (callEnvC fd s.heap.objs.size a),s.heap.objs.size≤b:=fun b hb=>by
   rcases own_mem hb with rfl | ⟨x,hm⟩
   ·exact Nat.le_refl _
   ·exact Nat.le_of_lt (X.above x b hm)
  refine xEEA (body s.heap.objs.size) fun fl locE bdy hv=>?_
  subst hv
  refine bdy _ _ _ μ _ (hA.deeper _) (HO.deeper S T rfl rfl ends) S₁ F fun f h₂ tk₂ μ₂ t₂ S₂ F₂ hf=>?_
  cases fl with
  | none =>
   have hf:f=.next:=hf
   subst hf
   exact k .none h₂ tk₂ μ₂ (T.trans t₂ fun b hb=>.inr (ends b hb)) S₂ .none
  | some v =>
  refine xEA hf fun mv q'1 rv=>?_;try clear hf;subst q'1
  refine k mv h₂ tk₂ μ₂ (T.trans t₂ fun b hb=>.inr (ends b hb)) S₂ rv
theorem TCHc.def {nm:Str} {i:Nat} {a:Addr} {ps:List Str} {as:List V} {v:V} (hf:FnAt ad nm i a)
  (hbind:∀ (pm cd:Value) (xs:List Value),xs.length=ps.length→bindArgs (fdAt i nm pm cd) ⟨xs,[]⟩=pure (ps.zip xs))
  (hps:ps.Nodup) (hlen:as.length=ps.length)
  (hkind':∀ x∈ps,(fScope (stAt i)).names.lookup x=some .local∨(fScope (stAt i)).names.lookup x=some .cell)
  (hnd:((cellsFrom 0 (fScope (stAt i)).names []).map (·.1)).Nodup)
  (body:∀ (pm cd:Value) (L:Addr),THR w ad r (frameEnv i nm pm cd L a) (ps.zip as) st (fBody (stAt i)) v st₁)
  (hco:(fScope (stAt i)).isCoroutine=false:=by rfl) (hgen:(fScope (stAt i)).isGenerator=false:=by rfl) (hk:(fScope (stAt i)).kind=.function:=by rfl) :
  TCHc w ad (r + 1) a st as v st₁:=by
 refine xEE hf.fd fun pm cd h=>?_
 exact TCHc.fdo h rfl rfl rfl rfl (fun xs hx A E s Q _ q=>by rw [hbind pm cd xs hx];exact wpAny_pure q) hps hlen hkind' hnd (fun L=>(body pm cd L).o) hco hgen hk
end Mine
namespace Mine
open PySem PySem.W PySem.Calls PyProof.Rows PySem.Builtin PySem.Builtin.Str
variable {w : World} {ad : Adr} {r : Nat} {st st₁ st₂ st₃ S : St}
theorem TCHc.law {a:Nat} {sa:Addr} {script:List Int} (G:Globs w ad) (hf:FnAt ad "law" 38 a) (hs:ScriptAt ad sa script) (hz:script.length < 2 ^ 20) :
  ∃ st',(∀ i,i < st.length→st'[i]?=st[i]?)∧TCHc w ad (r + 21) a st [.lit (.ref sa)] (.bool true) st':=by
 have X:=lawOk script
 obtain ⟨S,T,b,rf,cl,rw,e,d,kvs,M,low,front⟩:=law_front (r:=r) (w:=w) (ad:=ad) (a:=a) G hs hz X
 refine xEA (law_back (r:=r) (w:=w) (ad:=ad) (a:=a) G X M) fun st' lb back=>?_
 refine ⟨st',fun i hi=>?_,?_⟩
 ·obtain ⟨l1,l2,l3⟩:=low i hi
  exact (lb i l1 l3).trans l2
 refine TCHc.def (ps:=["script"]) hf (fun pm cd=>len1 fun _=>rfl) (by decide) rfl (by decide) (by decide) fun pm cd L=>?_
 exact front pm cd L _ _ (back pm cd L)
theorem callerA_ok:AOk 21 callerA where
 handled:=rfl
 frames:=⟨[],rfl⟩
 depth:=by decide +kernel
 units:=by decide +kernel
theorem caller_law {a:Nat} {sa:Addr} {script:List Int} (G:Globs w ad) (hf:FnAt ad "law" 38 a) (hs:ScriptAt ad sa script) (hz:script.length < 2 ^ 20) {s:Shared} {μ:Mu} {p:Pos} {Q:Value→Shared→Prop} {E:Value→Shared→Prop}
  (HO:HOut ad μ s.heap callerA) (Z:Sim w ad μ st s.heap)
  (k:∀ st' mv h' tk μ',(∀ i,i < st.length→st'[i]?=st[i]?)→Step ad.tabs [] μ s.heap μ' h'→Sim w ad μ' st' h'→RV cPair μ' h' (.bool true) mv→Q mv { s with heap:=h',toks:=tk }) :
  Sem.wp (model prog w) callerC (call (.ref a) [.ref sa] []) (fun v _ s'=>Q v s') (fun e _ s'=>E e s') p s:=by
 obtain ⟨st',low,T⟩:=TCHc.law (r:=0) G hf hs hz
 exact caller_call (T callerA s μ [.ref sa] Q E callerA_ok HO Z (.cons (.lit _) .nil) fun mv h' tk μ'=>k st' mv h' tk μ' low)
end Mine
namespace Mine
open PySem PySem.W PySem.Calls PyProof.Rows
theorem thread_at {q:Program} {w:World} {t:Sem Fin} {s:Shared} {R:Result→Shared→Prop} (hz:s.asleep)
  (h:Sem.wp (model q w) callerC t (fun fin _ s'=>∃ f,fin=.done f∧(R (.ok f) s'∧leftWithCleanup s'.gens=false)) (fun e _ s'=>R (.error e) s'∧leftWithCleanup s'.gens=false) default s) :
  ∃ n r s' s'',schedN (denote table) q w n (.single s ⟨t,.builtin "claim.caller" {},default,[]⟩)=.halted (outcomeOf r) s'∧runN (denote table) q w n s ⟨t,.builtin "claim.caller" {},default,[]⟩=.halted (outcomeOf r) s'∧s'.forget=s''.forget∧R r s'':=by
 have h':Sem.wp (model q w) callerC t (Sem.finPost (model q w) callerC (fun r s'=>R r s'∧leftWithCleanup s'.gens=false)) (fun e _ s'=>R (.error e) s'∧leftWithCleanup s'.gens=false) default s :=
  Sem.wp_mono _ _ t (fun fin p s' hf=>by obtain ⟨f,rfl,hf⟩:=hf;exact hf) (fun _ _ _ hf=>hf) _ s h
 refine xEEEEAAA (wp_halts_full (M:=model q w) (R:=R) hz h') fun n r a b h1 h2 h3 h4=>?_
 exact ⟨n,r,b,a,h1,h2,h3,h4⟩
theorem call_tree {q:Program} {w:World} {nm:Str} {f:Value} {vs:List Value} {s:Shared} {mg:Str→Option Value} {Q:Fin→Shared→Prop} {E:Value→Shared→Prop} {p:Pos} (hg:s.heap.Ns mainGlobals mg) (hf:mg nm=some f)
  (h:∀ p,Sem.wp (model q w) callerC (call f vs []) (fun v _ s'=>Q (.done (.ret v)) s') (fun e _ s'=>E e s') p s) :
  Sem.wp (model q w) callerC (do match ← nsGet mainNs nm with
   | some f=>do ret (← call f vs)
   | none=>unsupported "claim.caller:no-such-global") (fun fin _ s'=>Q fin s') (fun e _ s'=>E e s') p s:=by
 rw [Sem.wp_bind']
 refine wpAny_nsGet (A:=callerA) (Q:=fun x s'=>∀ p,Sem.wp (model q w) callerC (match x with
   | some f=>do ret (← call f vs)
   | none=>unsupported "claim.caller:no-such-global") (fun fin _ s'=>Q fin s') (fun e _ s'=>E e s') p s') (E:=E) hg ?_ callerC p caller_in |> fun z=>Sem.wp_mono _ _ _ (fun x p s' hx=>hx p) (fun _ _ _ hx=>hx) _ _ z
 rw [hf]
 intro p
 show Sem.wp _ _ ((call f vs []) >>= fun v=>ret v) _ _ p s
 rw [Sem.wp_bind']
 exact Sem.wp_mono _ _ _ (fun v p s' hv=>hv) (fun _ _ _ hx=>hx) _ _ (h p)
noncomputable abbrev topPos:Pos:={ line:=0,col:=0,endLine:=0,endCol:=0 }
noncomputable abbrev env0:Env:=mainEnv prog 31 32
noncomputable def sts0:List Stmt:=(prog.main.body.drop 1).take 7
noncomputable abbrev rest0:List Stmt:=prog.main.body.drop 8
noncomputable abbrev posK:Pos:=⟨91,0,91,8⟩
noncomputable abbrev rst (rest b:List Stmt) (pos:Pos):Thread:=restOf rest env0 (Code.body b env0) pos [topFrame topPos]
noncomputable def treeOf:BT→Nat→List Obj→Option BT
 | t,_,[]=>some t
 | t,n,o :: l=>match ((t.ins n o).get n).isSome with
  | true=>treeOf (t.ins n o) (n + 1) l
  | false=>none
theorem treeOf_abs {life:Life}:∀ {l:List Obj} {t t':BT} {n:Nat},treeOf t n l=some t'→absHeap t' (n + l.length) life=⟨(absHeap t n life).objs++l.toArray,life⟩
 | [],t,t',n,h=>by obtain rfl:=Option.some.inj h;rfl
 | o :: l,t,t',n,h=>by
  unfold treeOf at h
  split at h
  ·rename_i g
   have h1:=treeOf_abs (life:=life) h
   rw [absHeap_ins g] at h1
   rw [List.length_cons,show n + (l.length + 1)=n + 1 + l.length by omega,h1]
   simp [Heap.push,absHeap]
  ·exact nsome h
theorem treeOf_heap {h:Heap} {t:BT} (e:treeOf .nil 0 h.objs.toList=some t):absHeap t h.objs.size h.life=h:=by
 have:=treeOf_abs (life:=h.life) e
 rw [Nat.zero_add,Array.length_toList] at this
 rw [this]
 simp [absHeap,BT.list]
noncomputable abbrev tGo:=PySem.W.Fast.tw10295753902157049106
noncomputable abbrev tImp:=PySem.W.Fast.tw14789777615569096658
noncomputable abbrev tTb:=PySem.W.Fast.tw14364793385576792824
noncomputable abbrev tFen:=PySem.W.Fast.tw14289696077712309145
noncomputable abbrev tDen:=PySem.W.Fast.tw11892475500146522536
noncomputable abbrev topMods:List Str:=importedModules prog.main.body
noncomputable def freeNames:List Str:=["set","list","range","type","issubclass","tuple","super","getattr","len","chr","ord","map","str","TypeError"]
noncomputable def seenT (w:World) (h0 h:Heap) :=
 ((h.isNs mainGlobals,h.isNs builtinsNs,h.isNs cStatics,staticsOk topMods h0 h,h.accountedOkI topMods,namesBound prog h,laidKept h0 h),
  (h.get? 31,h.get? 30,h.get? 4,h.get? 104,h.get? 100),
  (h.nsMap mainGlobals "__builtins__",h.nsMap mainGlobals "Pair",h.nsMap mainGlobals "FreezableDefaultDict"),
  freeNames.map (h.nsMap mainGlobals),(h.nsMap builtinsNs "set",h.nsMap builtinsNs "list",h.nsMap builtinsNs "range"),h.bltView,(h.nsMap cStatics "sys.recursionlimit",h.nsMap cStatics "thirdparty.any"),
  (fragK w).map (fun p=>h.get? p.1))
noncomputable def posK0:List (Pos × Addr):=[(⟨2,0,0,0⟩,38),(⟨6,0,0,0⟩,45),(⟨24,0,0,0⟩,89),(⟨44,0,0,0⟩,119),(⟨86,0,0,0⟩,189)]
noncomputable def codeM:Obj:={ cls:=.type "code",data:=.fields #[.str "<module>" 274,.str "<module>" 275,.str "/claim/cut.py" 276,.int 1 0,.int 0 0,.int 0 0,.int 0 0,.int 0 0,.ref 29,.bool false,.int 273 0,.ref 30,.none,.none,.none,.none,.int 277 0,.int 1 0,.str "/claim/cut.py" 278] }
noncomputable def codeF:Obj:={ cls:=.type "code",data:=.fields #[.str "freeze" 369,.str "FreezableDefaultDict.freeze" 370,.str "/claim/cut.py" 371,.int 42 0,.int 1 0,.int 0 0,.int 0 0,.int 3 0,.ref 99,.bool true,.int 273 0,.ref 100,.none,.ref 101,.ref 102,.ref 103,.int 374 0,.int 42 0,.str "/claim/cut.py" 375] }
noncomputable def dueT (w:World) :=
 ((true,true,true,true,true,true,true),
  (some codeM,some ({ cls:=.none,data:=.fields (triples posK0).toArray }:Obj),some ({ cls:=.type "module",dict:=some builtinsNs }:Obj),some codeF,some ({ cls:=.none,data:=.fields #[] }:Obj)),
  (some (Value.ref 4),some (Value.ref 203),some (Value.ref 108)),
  freeNames.map (fun _=>(none:Option Value)),(some (Value.type "set"),some (Value.type "list"),some (Value.type "range")),bltViewBooted,((none:Option Value),(none:Option Value)),
  (fragK w).map (fun p=>some p.2))
set_option maxHeartbeats 4000000 in
theorem top_seen (w:World) (os:OsState) (rest b:List Stmt):((tImp tTb (opening prog) w 828 ⟨.nil,0,{},⟨[]⟩,{},(start (opening prog)).1.toks,os⟩ (start (opening prog)).2).bind fun x=>(tFen prog x.1.abs).bind fun s=>(treeOf .nil 0 s.heap.objs.toList).bind fun t =>
  (tGo tTb prog w 29 (some (Value.ref 6)) 1000 12 ⟨t,s.heap.objs.size,s.heap.life,s.gens,s.drawn,s.toks,s.os⟩ (topStub prog)).bind fun y =>
  (tGo tTb prog w 29 (some (Value.ref 6)) 1 1941 y.1 (rst (sts0++rest) b topPos)).map fun z=>(x.2.atExitBegin,(s.gens,s.os,s.heap.isNs mainGlobals,s.heap.nsMap mainGlobals "__annotations__",s.heap.objs.size),y.2,z.2,(z.1.n,z.1.gens,z.1.os),seenT w s.heap z.1.abs.heap)) =
  some (some [],(⟨[]⟩,os,true,some (.ref 6),29),⟨tDen tTb (Code.body (behindTheImports prog) env0),Code.body (behindTheImports prog) env0,topPos,[topFrame topPos]⟩,rst rest b posK,(207,⟨[]⟩,os),dueT w):=by
 kernel_rfl
noncomputable def OldStay (h h':Heap):Prop:=∀ b o,b < 29→b≠mainNs→b≠cStatics→b≠6→h.get? b=some o→h'.get? b=some o
noncomputable def GoesOn (w:World) (R:Shared→Prop) (s:Shared) (t:Thread):Prop :=
 ∃ m t₁ s₁,schedN (denote table) prog w m (.single s t)=.running (.single s₁ t₁)∧through t₁=true∧s₁.heap.life=s.heap.life∧OldStay s.heap s₁.heap∧R s₁
theorem GoesOn.step {w:World} {R:Shared→Prop} {s s':Shared} {t t':Thread} (hr:s.asleep) (hk:stepOk 29 (some (.ref 6)) t=true)
  (hs:step (denote table) prog w s t=.go s' t') (h:s'.asleep→GoesOn w R s' t'):GoesOn w R s t:=by
 have hl:=step_life (denote table) prog w s s' t t' hs
 refine xEEEAAA (h (Shared.asleep_of_life hl hr)) fun m t₁ s₁ hm ht l r'1=>?_;refine xA r'1 fun k r=>?_
 refine xA (Bool.and_eq_true_iff.mp hk) fun hc hu=>?_
 refine ⟨m + 1,t₁,s₁,?_,ht,l.trans hl,fun b o h1 h2 h3 h4 e=>k b o h1 h2 h3 h4 ?_,r⟩
 ·rcases sstep_single (denote table) prog w s t hc hr with e | e <;> rw [hs] at e
  ·simp only [schedN,e];exact hm
  ·cases e
 ·have hh:=step_heap (denote table) prog w s s' t t' hs
  rw [hh]
  split
  ·rename_i a q f kk hq
   rw [hq] at hu
   have ne:b≠a:=by
    rintro rfl
    simp only [Bool.or_eq_true,Nat.ble_eq,beq_iff_eq,Option.some.injEq,Value.ref.injEq] at hu
    rcases hu with ((z | z) | z) | z
    ·exact absurd h1 (Nat.not_lt.mpr z)
    ·exact h2 z
    ·exact h3 z
    ·exact h4 z.symm
   exact (Heap.get?_update_ne _ _ _ _ ne).trans e
  ·exact Heap.get?_push_of_some _ e
  ·exact e
theorem GoesOn.seg {w:World} {R:Shared→Prop} {b:Nat}:∀ {n:Nat} {s s':Shared} {t t':Thread},s.asleep→segGo table prog w 29 (some (.ref 6)) b n s t=some (s',t')→(s'.asleep→GoesOn w R s' t')→GoesOn w R s t
 | 0,s,s',t,t',hr,e,h=>by
  cases e;exact h hr
 | n + 1,s,s',t,t',hr,e,h=>by
  unfold segGo at e
  split at e
  ·exact nsome e
  ·split at e
   ·exact nsome e
   ·rename_i hk
    split at e
    ·rename_i s₂ t₂ hs
     exact GoesOn.step hr hk hs fun hr'=>GoesOn.seg hr' e h
    ·exact nsome e
theorem body_parts:behindTheImports prog=sts0++rest0:=by kernel_rfl
theorem body_start:blockStart (behindTheImports prog) env0=Sem.pure ():=by kernel_rfl
noncomputable abbrev os0:OsState:=(start (opening prog)).1.os
structure TopOk (w:World) (s0 sK:Shared):Prop where
 imp:∃ s,AfterImport (opening prog) w s∧fenceModules? prog s=some s0
 gens0:s0.gens=#[]
 osa:s0.os=os0
 ns0:s0.heap.isNs mainGlobals=true
 ann:s0.heap.nsMap mainGlobals "__annotations__"=some (.ref 6)
 size0:s0.heap.objs.size=29
 go:∀ R:Shared→Prop,s0.asleep→(sK.asleep→GoesOn w R sK (rst rest0 (behindTheImports prog) posK))→GoesOn w R s0 (topStub prog)
 gensK:sK.gens=#[]
 osK:sK.os=os0
 sizeK:sK.heap.objs.size=207
 seen:seenT w s0.heap sK.heap=dueT w
theorem bind5 {α β γ δ ε ζ:Type} {a:Option α} {f:α→Option β} {g:β→Option γ} {k:β→γ→Option δ} {m:δ→Option ε} {r:α→β→δ→ε→ζ} {v:ζ}
  (h:(a.bind fun x=>(f x).bind fun s=>(g s).bind fun t=>(k s t).bind fun y=>(m y).map fun z=>r x s y z)=some v):∃ x s t y z,a=some x∧f x=some s∧g s=some t∧k s t=some y∧m y=some z∧r x s y z=v:=by
 refine xEA (Option.bind_eq_some_iff.mp h) fun x h1 h=>?_
 refine xEA (Option.bind_eq_some_iff.mp h) fun s h2 h=>?_
 refine xEA (Option.bind_eq_some_iff.mp h) fun t h3 h=>?_
 refine xEA (Option.bind_eq_some_iff.mp h) fun y h4 h=>?_
 refine xEA (Option.map_eq_some_iff.mp h) fun z h5 h=>?_
 exact ⟨x,s,t,y,z,h1,h2,h3,h4,h5,h⟩
theorem some_pair {α β:Type} {o:Option (α × β)} {y:α × β} {b:β} (h:o=some y) (e:y.2=b):o=some (y.1,b):=by rw [h,← e]
theorem imp_twin {w:World} {n:Nat} {s:SharedT} {t:Thread} {x:SharedT × Thread} (h:tImp tTb (opening prog) w n s t=some x) (e:x.2.atExitBegin=some []):importEnds table (opening prog) w (n + 1) s.abs t=some x.1.abs:=by
 unfold tImp tTb at h
 rw [← PySem.W.Fast.te14789777615569096658,← PySem.W.Fast.te14364793385576792824] at h
 rw [table_eq_tree]
 refine imp_go (impGo_of h) (N:=1) ?_
 unfold importEnds
 rw [e]
theorem go_twin {w:World} {b n:Nat} {s s':SharedT} {t t':Thread} (h:tGo tTb prog w 29 (some (.ref 6)) b n s t=some (s',t')):segGo table prog w 29 (some (.ref 6)) b n s.abs t=some (s'.abs,t'):=by
 unfold tGo tTb at h
 rw [← PySem.W.Fast.te10295753902157049106,← PySem.W.Fast.te14364793385576792824,← table_eq_tree] at h
 exact segGo_of h
theorem fen_twin {s:Shared}:tFen prog s=fenceModules? prog s:=by unfold tFen;rw [← PySem.W.Fast.te14289696077712309145]
theorem den_twin:tDen tTb (.body (behindTheImports prog) env0)=(execs (behindTheImports prog) env0).wrap doneF (leaveH env0) id id:=by
 unfold tDen tTb
 rw [← PySem.W.Fast.te11892475500146522536,← PySem.W.Fast.te14364793385576792824,← table_eq_tree,body_wrap,body_start]
 rfl
theorem topOk (w:World):∃ s0 sK,TopOk w s0 sK:=by
 refine xEEEE (bind5 (top_seen w os0 rest0 (behindTheImports prog))) fun x s t y r'1=>?_;refine xEAAA r'1 fun z h1 h2 h3 r'2=>?_;refine xAA r'2 fun h4 h5 h6=>?_
 refine xA (Prod.mk.inj h6) fun i1 h6=>?_
 refine xA (Prod.mk.inj h6) fun j1 h6=>?_
 refine xA (Prod.mk.inj h6) fun i7 h6=>?_
 refine xA (Prod.mk.inj h6) fun i8 h6=>?_
 refine xA (Prod.mk.inj h6) fun j2 i12=>?_
 refine xA (Prod.mk.inj j1) fun i2 j1=>?_
 refine xA (Prod.mk.inj j1) fun i3 j1=>?_
 refine xA (Prod.mk.inj j1) fun i4 j1=>?_
 refine xA (Prod.mk.inj j1) fun i5 i6=>?_
 refine xA (Prod.mk.inj j2) fun i9 j2=>?_
 refine xA (Prod.mk.inj j2) fun i10 i11=>?_
 have hS:(⟨t,s.heap.objs.size,s.heap.life,s.gens,s.drawn,s.toks,s.os⟩:SharedT).abs=s:=by
  unfold SharedT.abs
  rw [treeOf_heap h3]
 have g4:=go_twin (some_pair h4 i7)
 have g5:=go_twin (some_pair h5 i8)
 rw [hS,den_twin] at g4
 rw [← body_parts] at g5
 rw [fen_twin] at h2
 refine ⟨s,z.1.abs,⟨x.1.abs,AfterImport.of_importEnds (imp_twin h1 i1),h2⟩,i2,i3,i4,i5,i6,fun R hz h=>GoesOn.seg hz g4 fun hz'=>GoesOn.seg hz' g5 h,i10,i11,?_,i12⟩
 show (absHeap _ _ _).objs.size=207
 rw [absHeap_size];exact i9
noncomputable def topA (c:Code):Around:=Around.over ⟨none,0,some [],some [],0⟩ c [topFrame topPos]
theorem topA_in (c:Code):((⟨c,none,none,[],none⟩:Ctx).over [topFrame topPos]).In (topA c) :=
 Ctx.Woken.over (Γ:=⟨c,none,none,[],none⟩) (A:=⟨none,0,some [],some [],0⟩) ⟨⟨rfl,Nat.le_refl _,fun l h=>by cases h;rfl,fun l h=>by obtain rfl:=Option.some.inj h;rfl,Nat.le_refl _⟩,rfl⟩ _
theorem topA_handled (c:Code):(topA c).handled=none:=rfl
theorem GoesOn.wp {w:World} {R:Shared→Prop} {s:Shared} {rest b:List Stmt} {pos:Pos} (hz:s.asleep)
  (h:wpAny (model prog w) (topA (.body b env0)) (execs rest env0) (fun f s'=>f=.next∧leftWithCleanup s'.gens=false∧OldStay s.heap s'.heap∧∀ s'',s''.heap=s'.heap→s''.os=s'.os→s''.gens.size=s'.gens.size→R s'') (fun _ _=>False) s):GoesOn w R s (rst rest b pos):=by
 refine xEEA (runs_wrap_of_wp (M:=model prog w) (Γ:=⟨.body b env0,none,none,[],none⟩) (fs:=[topFrame topPos]) (Φ:=fun e s'=>e=.ret (.ok (.ret .none))∧leftWithCleanup s'.gens=false∧OldStay s.heap s'.heap∧∀ s'',s''.heap=s'.heap→s''.os=s'.os→s''.gens.size=s'.gens.size→R s'')
  doneF (leaveH env0) id id (execs rest env0) (h _ pos (topA_in _)) (fun f p' s' hf=>⟨.ret (.ok (.ret .none)),s',by
   obtain ⟨rfl,_⟩:=hf
   exact Runs.pop (.ok .next) (Runs.leaf (.ok (.ret .none))),rfl,hf.2⟩) (fun _ _ _ hf=>hf.elim)) fun e s' hr he=>?_
 refine xA he fun q'1 r'2=>?_;try clear he;subst q'1;refine xAA r'2 fun hc hO hR=>?_
 refine xEEEE ((runs_reach hr [] ⟨rfl,rfl,rfl,rfl⟩).runN) fun n t' c' p' r'1=>?_;refine xEAA r'1 fun pre' hn q'2 q'4=>?_;subst q'2;subst q'4
 rw [List.append_nil] at hn
 have hh:(model prog w).runN (n + 1) s (rst rest b pos)=.halted (outcomeOf (.ok (.ret .none))) s':=by
  refine (runN_snoc (M:=model prog w) hn).trans ?_
  rw [List.append_nil,step_leaf_nil]
  simp only [finish,hc,Bool.false_eq_true,if_false]
 refine xEAA (runNI_real (denote table) prog w hh (outcomeOf_ends _)) fun σ h1 h2 hcalm=>?_
 have hne:∀ k s₂,PySem.runN (denote table) prog w k s (rst rest b pos)≠.halted (.unsupported "lifetime:generator-with-cleanup-left-suspended") s₂:=by
  intro k s₂ hk
  have a:=runN_mono (denote table) prog w (n + 1) k s _ _ σ h1
  have b:=runN_mono (denote table) prog w k (n + 1) s _ _ s₂ hk
  rw [Nat.add_comm,b] at a
  cases a
 refine xEEAA (runNI_running_real hn) fun σ' τ r1 r2 r3=>?_
 have hs:=schedN_eq_runN (denote table) prog w s (rst rest b pos) hz ⟨hcalm,hne⟩ n
 have hs:=hs.trans (congrArg Run.lift r1)
 refine xAAAA (Shared.forget_eq r2) fun eh _ _ eo eg=>?_
 have e3:τ.cur=Sem.pure (.done (.ret .none))∧τ.stack=[]:=by
  obtain ⟨cur,code,p,st⟩:=τ
  simp only [Thread.forget,Thread.mk.injEq] at r3
  refine xAAA r3 fun a1 _ _ a4=>?_
  refine ⟨a1,?_⟩
  exact List.map_eq_nil_iff.mp (show List.map Frame.forget st=[] from a4)
 refine ⟨n,τ,σ',hs,?_,runN_life_running r1,by rw [eh];exact hO,hR σ' eh eo ?_⟩
 ·unfold through;rw [e3.1,e3.2];rfl
 ·have:=congrArg Array.size eg
  simpa using this
end Mine
namespace Mine
open PySem PySem.W PySem.Calls PyProof.Rows
variable {w : World}
structure TopB (h:Heap):Prop where
 g:∃ mg,h.Ns mainGlobals mg∧mg "set"=none∧mg "list"=none∧mg "range"=none
 b:∃ mb,h.Ns builtinsNs mb∧mb "set"=some (.type "set")∧mb "list"=some (.type "list")∧mb "range"=some (.type "range")
theorem TopB.keeps {h h':Heap} (T:TopB h) (k:∀ b o,h.get? b=some o→h'.get? b=some o):TopB h' :=
 ⟨let ⟨m,a,q⟩:=T.g;⟨m,a.keeps k,q⟩,let ⟨m,a,q⟩:=T.b;⟨m,a.keeps k,q⟩⟩
noncomputable def EvL (w:World) (e:Expr) (ns:List Int):Prop:=∀ (A:Around) (E:Value→Shared→Prop) (s:Shared) (Q:Value→Shared→Prop),A.handled=none→TopB s.heap →
 (∀ a items n h' tk,(∀ b o,s.heap.get? b=some o→h'.get? b=some o)→h'.get? a=some (listOf items n)→IntsAre items.toList ns→s.heap.objs.size≤h'.objs.size→Q (.ref a) { s with heap:=h',toks:=tk })→wpAny (model prog w) A (eval e env0) Q E s
theorem loadTop (x:Str) {A:Around} {E:Value→Shared→Prop} {s:Shared} {Q:Value→Shared→Prop} {mg mb:Str→Option Value} {v:Value} (hg:s.heap.Ns mainGlobals mg) (hx:mg x=none) (hb:s.heap.Ns builtinsNs mb) (hv:mb x=some v)
  (hl:loadName env0 x=loadGlobal env0 x) (h:Q v s):wpAny (model prog w) A (loadName env0 x) Q E s:=by
 rw [hl]
 exact loadGlobal_builtin hg hx hb hv h
theorem arg_cons {A:Around} {E:Value→Shared→Prop} {s:Shared} {pos:Pos} {env:Env} {e:Expr} {es:List Expr} {Q:List Value→Shared→Prop} (hs:∀ x p,e≠.Starred x p)
  (h:wpAny (model prog w) A (eval e env) (fun v s₁=>wpAny (model prog w) A (spliced (backTo pos (starEach es env))) (fun vs s₂=>Q (v :: vs) s₂) E s₁) E s):wpAny (model prog w) A (spliced (backTo pos (starEach (e :: es) env))) Q E s:=by
 rw [star_plain hs]
 show wpAny _ _ (spliced ((false,eval e env) :: backTo pos (starEach es env))) _ _ _
 exact spliced_cons h
inductive LitsAre:List Expr→List Int→Prop
 | nil:LitsAre [] []
 | cons {es ns} (i:Int) (k:Nat) (p:Pos):LitsAre es ns→LitsAre (.Constant (.int i) k p :: es) (i :: ns)
theorem lits_spliced {A:Around} {E:Value→Shared→Prop} {pos:Pos} {env:Env} {es:List Expr} {ns:List Int} (L:LitsAre es ns):∀ (s:Shared) (Q:List Value→Shared→Prop),
  (∀ vs tk,IntsAre vs ns→Q vs { s with toks:=tk })→wpAny (model prog w) A (spliced (backTo pos (starEach es env))) Q E s:=by
 induction L with
 | nil=>exact fun s Q h=>spliced_nil (h [] s.toks .nil)
 | cons i k p _ ih=>exact fun s Q h=>arg_cons nofun (wpAny_Constant_int (ih _ _ fun vs tk hv=>h _ _ (.cons i _ hv)))
theorem ints_len {vs:List Value} {ns:List Int} (x:IntsAre vs ns):vs.length=ns.length:=by
 induction x with
 | nil=>rfl
 | cons _ _ _ ih=>exact congrArg (· + 1) ih
theorem EvL.lits {es:List Expr} {ns:List Int} {pos:Pos} (hl:LitsAre es ns) (hz:ns.length≤4096):EvL w (.List es pos) ns:=by
 intro A E s Q hh T h
 rw [eval_List_]
 refine wpAny_bind (wpAny_standAt (wpAny_bind (lits_spliced hl s _ fun vs tk hv=>?_)))
 refine wpAny_newList (h _ vs.toArray 0 _ tk (fun b o e=>Heap.get?_push_of_some _ e) (Heap.get?_push_size _ rfl) hv (by rw [Heap.size_push];exact Nat.le_succ _)) (by rw [ints_len hv];exact Nat.le_trans hz (by decide))
theorem top_range {a b:Nat} {A:Around} {E:Value→Shared→Prop} {s:Shared} {Q:Value→Shared→Prop} {p pos p1 p2:Pos} {k1 k2:Nat} (T:TopB s.heap)
  (h:∀ h' tk t u v,IsRange h' s.heap.objs.size a b 1 t u v→(∀ b o,s.heap.get? b=some o→h'.get? b=some o)→s.heap.objs.size < h'.objs.size→Q (.ref s.heap.objs.size) { s with heap:=h',toks:=tk }) :
  wpAny (model prog w) A (eval (.Call (.Name ("range":Str) p) [.Constant (.int a) k1 p1,.Constant (.int b) k2 p2] [] pos) env0) Q E s:=by
 refine xEAAA T.g fun mg hg _ _ hr=>?_
 refine xEAAA T.b fun mb hb _ _ hv=>?_
 rw [eval_Call_Name]
 refine wpAny_bind (wpAny_Name (loadTop _ hg hr hb hv (by rfl) ?_))
 refine PyProof.Rows.callWith_type1 (arg_cons (ns rfl) (wpAny_Constant_int (arg_cons (ns rfl) (wpAny_Constant_int (spliced_nil ?_)))))
 refine call_range_2 ?_
 exact h _ _ _ _ _ (IsRange.new _ _ _ _ _ _ _) (fun b o e=>Heap.get?_push_of_some _ e) (by rw [Heap.size_push];exact Nat.lt_succ_self _)
theorem ints_of_items {items:Array Value} {a:Nat}:∀ {n:Nat},ItemsOf (fun i v=>∃ t,v=.int ((a:Int) + i * 1) t) items n→IntsAre items.toList ((List.range n).map fun (i:Nat)=>((a + i:Nat):Int)):=by
 intro n h
 have key:∀ (l:List Value) (k:Nat),(∀ j v,l[j]?=some v→∃ t,v=Value.int ((a:Int) + (k + j:Nat) * 1) t)→IntsAre l ((List.range' k l.length).map fun (i:Nat)=>((a + i:Nat):Int)):=by
  intro l
  induction l with
  | nil=>intro k _;exact .nil
  | cons x l ih =>
   intro k hk
   refine xE (hk 0 x rfl) fun t e=>?_
   rw [List.length_cons,List.range'_succ,List.map_cons,e]
   have:((a:Int) + ((k + 0:Nat):Int) * 1)=((a + k:Nat):Int):=by simp
   rw [this]
   refine .cons _ t (ih (k + 1) fun j v hj=>?_)
   refine xE (hk (j + 1) v (by simpa using hj)) fun t' e'=>?_
   exact ⟨t',by rw [e',show k + 1 + j=k + (j + 1) by omega]⟩
 have:=key items.toList 0 fun j v hj=>by
  refine xE (h.2 j v (by simpa using hj)) fun t e=>?_
  exact ⟨t,by rw [e];simp⟩
 rw [Array.length_toList,h.1] at this
 rwa [List.range_eq_range']
theorem EvL.range {a b:Nat} {p pos p0 pos0 p1 p2:Pos} {k1 k2:Nat} (hab:a≤b) (hb:b < 2 ^ 24):EvL w (.Call (.Name ("list":Str) p0) [.Call (.Name ("range":Str) p) [.Constant (.int a) k1 p1,.Constant (.int b) k2 p2] [] pos] [] pos0) (rng a b):=by
 intro A E s Q hh T h
 refine xEAAA T.g fun mg hg _ hr _=>?_
 refine xEAAA T.b fun mb hb' _ hv _=>?_
 rw [eval_Call_Name]
 refine wpAny_bind (wpAny_Name (loadTop _ hg hr hb' hv (by rfl) ?_))
 refine PyProof.Rows.callWith_type1 (arg_cons nofun (top_range T fun h₁ tk t u v hr₁ k₁ z₁=>spliced_nil ?_))
 have e1:Builtin.Range.rangeSize a b 1=((b - a:Nat):Int):=by rw [rangeSize_one];split <;> omega
 refine call_list_range (n:=b - a) hh hr₁ (small_one (by exact Int.natCast_nonneg _) (by omega) (by exact Int.natCast_nonneg _) (by omega)) e1 (by omega) fun h₂ tk₂ acc c k₂ hl hi=>?_
 refine h _ acc c h₂ tk₂ (fun b o e=>k₂ b o (k₁ b o e)) hl (ints_of_items hi) ?_
 have:=Heap.lt_size hl
 dsimp only at this
 exact Nat.le_trans (Nat.le_of_lt z₁) (Nat.le_of_lt this)
theorem ints_append {vs ws:List Value} {ns ms:List Int} (x:IntsAre vs ns) (h:IntsAre ws ms):IntsAre (vs++ws) (ns++ms):=by
 induction x with
 | nil=>exact h
 | cons n t _ ih=>exact .cons n t ih
theorem EvL.add {l r:Expr} {n1 n2:List Int} {pos:Pos} (hl:EvL w l n1) (hr:EvL w r n2) (hz:n1.length + n2.length≤4096):EvL w (.BinOp l .Add r pos) (n1++n2):=by
 intro A E s Q hh T h
 refine wpAny_BinOp (hl A E s _ hh T fun a i1 c1 h1 tk1 k1 e1 v1 z1=>hr A E _ _ hh (T.keeps k1) fun b i2 c2 h2 tk2 k2 e2 v2 z2=>?_)
 have l1:=ints_len v1
 have l2:=ints_len v2
 rw [Array.length_toList] at l1 l2
 refine PySem.P.add_list (items:=i1) (items2:=i2) (n:=c1) (n2:=c2) (k2 _ _ e1) e2 ?_ (by rw [l1,l2];exact Nat.le_trans hz (by decide))
 exact h _ (i1++i2) 0 _ tk2 (fun b o e=>Heap.get?_push_of_some _ (k2 _ _ (k1 _ _ e))) (Heap.get?_push_size _ rfl) (by rw [Array.toList_append];exact ints_append v1 v2) (by rw [Heap.size_push];exact Nat.le_succ_of_le (Nat.le_trans z1 z2))
noncomputable def EvS (w:World) (e:Expr) (ns:List Int):Prop:=∀ (A:Around) (E:Value→Shared→Prop) (s:Shared) (Q:Value→Shared→Prop),A.handled=none→TopB s.heap →
 (∀ a n h' tk,(∀ b o,s.heap.get? b=some o→h'.get? b=some o)→h'.SetOf (intKind prog w) a (inL ns) n→s.heap.objs.size≤a→Q (.ref a) { s with heap:=h',toks:=tk })→wpAny (model prog w) A (eval e env0) Q E s
theorem met_inL {ns:List Int} {m:Nat} (hm:m=ns.length) (k:Int):(firstMet (fun i=>ns.getD i 0) m).any (· == k)=inL ns k:=by
 rw [firstMet_any,hm]
 have e:(List.range ns.length).map (fun i=>ns.getD i 0)=ns:=by
  refine List.ext_getElem (by simp) fun i h1 h2=>?_
  simp [List.getD_eq_getElem?_getD,List.getElem?_eq_getElem h2]
 rw [e]
 unfold inL
 rw [List.contains_eq_any_beq]
 congr 1
 funext x
 by_cases hx:x=k
 ·subst hx;rfl
 ·rw [beq_eq_false_iff_ne.mpr hx,beq_eq_false_iff_ne.mpr (Ne.symm hx)]
theorem EvS.ofList {e:Expr} {ns:List Int} {p pos:Pos} (hs:∀ x p,e≠.Starred x p) (he:EvL w e ns) (hz:ns.length + 1 < 4096):EvS w (.Call (.Name ("set":Str) p) [e] [] pos) ns:=by
 intro A E s Q hh T h
 refine xEAA T.g fun mg hg hr _=>?_
 refine xEAA T.b fun mb hb' hv _=>?_
 rw [eval_Call_Name]
 refine wpAny_bind (wpAny_Name (loadTop _ hg hr hb' hv (by rfl) ?_))
 refine PyProof.Rows.callWith_type1 (arg_cons hs (he A E s _ hh T fun a i c h₁ tk k₁ e₁ v₁ z₁=>spliced_nil ?_)) (star_plain hs)
 have l1:=ints_len v₁
 rw [Array.length_toList] at l1
 refine call_set_list (ns:=ns) hh ⟨_,e₁,rfl,c,rfl⟩ v₁ (by rw [l1];exact hz) fun h₂ tk₂ hS k₂=>?_
 exact h _ _ h₂ tk₂ (fun b o e=>k₂ b o (Heap.lt_size (k₁ _ _ e)) (k₁ _ _ e)) (SetOf_congr hS (met_inL l1) rfl) z₁
set_option maxHeartbeats 3200000 in
theorem set_range {A:Around} {E:Value→Shared→Prop} {s:Shared} {Q:Value→Shared→Prop} {r:Addr} {a b:Int} {t u v:Tok} {n:Nat} (hh:A.handled=none) (hr:IsRange s.heap r a b 1 t u v) (hsm:Builtin.Range.small a b 1=true)
  (hn:Builtin.Range.rangeSize a b 1=n) (hb:n + 1 < 4096)
  (h:∀ (h':Heap) (tk m:Nat),h'.SetOf (intKind prog w) s.heap.objs.size (fun k'=>(firstMet (fun i=>a + (i:Int) * 1) n).any (· == k')) m →
   (∀ b o,s.heap.get? b=some o→h'.get? b=some o)→Q (.ref s.heap.objs.size) { s with heap:=h',toks:=tk }) :
  wpAny (model prog w) A (call (.type "set") [.ref r]) Q E s:=by
 refine xEE F.called_set.mro fun c tl hmro=>?_
 have hmade:=F.called_set.made
 have hsub:=F.called_set.sub
 have h1:=F.called_set.notType
 have h2:=F.called_set.canCreate
 have hct:=F.typeCall_set_1 (.ref r)
 have hr0:=Heap.lt_size hr
 refine wpAny_call (codeAny_of_tree ?_)
 show wpAny _ _ (callAny (.type "set") _) _ _ _
 refine wpAny_pure ⟨Code.quiet_builtin _ (by decide +kernel),codeAny_builtin F.entry_type_call ?_⟩
 rw [Around.under_plain (weight_type_call_type "set" [.ref r] []) rfl]
 repeat (any_goals (first | assumption | wp_step))
 let H (led:Bool):Heap:=s.heap.push { cls:=.type "set",dict:=none,data:=.set #[] 0 (.fresh 0 0 led) }
 refine codeAny_mono (code_set_new_1 (.ref r) (E:=E) (Q₁:=fun obj s₁=>∃ led:Bool,obj=.ref s.heap.objs.size∧s₁={ s with heap:=H led }) fun led=>⟨led,rfl,rfl⟩) fun res s₁ hres=>?_
 cases res with
 | error e=>exact hres
 | ok fl =>
  cases fl with
  | ret obj =>
   refine xEA hres fun led q'1 q'3=>?_;try clear hres;subst q'1;subst q'3
   have hS:(H led).get? s.heap.objs.size=some { cls:=.type "set",dict:=none,data:=.set #[] 0 (.fresh 0 0 led) }:=Heap.get?_push_size _ rfl
   have hT:Shared.TypeIs { s with heap:=H led } (.ref s.heap.objs.size) "set":=⟨_,hS,rfl⟩
   have hli:=F.called_set.init.lookup
   have hbi:=F.called_set.init.bind (.ref s.heap.objs.size)
   repeat (any_goals (first | assumption | wp_step))
   refine codeAny_mono (codeAny_call_builtin (R:=wants (fun r₂ s₂=>r₂=.none∧∃ h' tk m,s₂={ s with heap:=h',toks:=tk }∧h'.SetOf (intKind prog w) s.heap.objs.size (fun k'=>(firstMet (fun i=>a + (i:Int) * 1) n).any (· == k')) m ∧
     (∀ b o,s.heap.get? b=some o→h'.get? b=some o)) E) F.called_set.init.plain F.entry_set_init (check_set_init_1 hT ?_)) fun r₂ s₂ hr₂=>?_
   ·have hr':IsRange (H led) r a b 1 t u v:=Heap.get?_push_of_some _ hr
    have hget:(H led).get? r=some _:=hr'
    have hs1:=F.sub_range_set
    have hs2:=F.sub_range_frozenset
    have hne:(Value.type "range" == Value.type "dict")=false:=by decide
    unfold Builtin.«set.__init__» noKeywords Builtin.Frozenset.updateFrom
    generalize hPI:pyIter=PI
    wp_walk
    subst hPI
    refine wpAny_pyIter_range hr' hsm ?_
    refine wpAny_bind (wpAny_runValue ?_)
    rw [show Builtin.Range.rangeSize a b 1=(n:Int) from hn]
    have hh3:A.in1.in1.in1.handled=none:=by simp [hh]
    have hSf:s.heap.objs.size∉[(H led).objs.size]:=by
     rw [Heap.size_push];simp only [List.mem_singleton]
     exact Nat.ne_of_lt (Nat.lt_succ_self _)
    have hit:IsRangeIter ((H led).push { cls:=.type "range_iterator",data:=.fields #[rawInt a,rawInt (n:Int),rawInt 1] }) (H led).objs.size (a + ((0:Nat):Int) * 1) ((n:Int) - ((0:Nat):Int)) 1:=by
     have:=Heap.get?_push_size (H led) (o:={ cls:=.type "range_iterator",data:=.fields #[rawInt a,rawInt (n:Int),rawInt 1] }) rfl
     simpa [IsRangeIter] using this
    refine codeAny_set_update_loopS ((Walks.range hh3 (H led).objs.size a 1 n).toS) s.heap.objs.size hSf (fun i=>a + (i:Int) * 1) (fun i v hv=>hv) hb (n - 0) 0 _ rfl (Nat.zero_le _) hit ?hS0 ?hR
    case hS0=>exact SetOf_congr ((setObjOf_fresh (knd:=intKind prog w) led).setOf (Heap.get?_push_of_some _ hS) (by unfold scanBound;omega)) (fun _=>rfl) rfl
    case hR =>
     intro s' hm hS'
     obtain ⟨h',g',d',tk',os'⟩:=s'
     obtain rfl:g'=s.gens:=hm.gens
     obtain rfl:d'=s.drawn:=hm.drawn
     obtain rfl:os'=s.os:=hm.os
     show wpAny _ _ _ _ _ _
     refine wpAny_pure ?_
     show wpAny _ _ (ret Value.none) _ _ _
     refine wpAny_pure ⟨rfl,h',tk',_,rfl,hS',fun b o e=>hm.heap b o ?_ (Heap.get?_push_of_some _ (Heap.get?_push_of_some _ e))⟩
     have hb:=Heap.lt_size e
     rw [Heap.size_push]
     simp only [List.mem_cons,List.not_mem_nil,or_false,not_or]
     exact ⟨Nat.ne_of_lt hb,Nat.ne_of_lt (Nat.lt_succ_of_lt hb)⟩
   ·cases r₂ with
    | error e=>exact hr₂
    | ok fl₂ =>
     cases fl₂ with
     | ret r =>
      refine xA hr₂ fun q'1 r'2=>?_;try clear hr₂;subst q'1;refine xEEEA r'2 fun h' tk m q'3 r'4=>?_;subst q'3;refine xA r'4 fun hS' hk'=>?_
      repeat (any_goals (first | assumption | wp_step))
      exact h _ _ _ hS' hk'
     | _=>exact False.elim hr₂
  | _=>exact False.elim hres
theorem EvS.ofRange {a b:Nat} {p pos p0 pos0 p1 p2:Pos} {k1 k2:Nat} (hab:a≤b) (hb:b < 2 ^ 24) (hz:b - a + 1 < 4096):EvS w (.Call (.Name ("set":Str) p0) [.Call (.Name ("range":Str) p) [.Constant (.int a) k1 p1,.Constant (.int b) k2 p2] [] pos] [] pos0) (rng a b):=by
 intro A E s Q hh T h
 refine xEAA T.g fun mg hg hr _=>?_
 refine xEAA T.b fun mb hb' hv _=>?_
 rw [eval_Call_Name]
 refine wpAny_bind (wpAny_Name (loadTop _ hg hr hb' hv (by rfl) ?_))
 refine PyProof.Rows.callWith_type1 (arg_cons nofun (top_range T fun h₁ tk t u v hr₁ k₁ z₁=>spliced_nil ?_))
 have e1:Builtin.Range.rangeSize a b 1=((b - a:Nat):Int):=by rw [rangeSize_one];split <;> omega
 refine set_range (n:=b - a) hh hr₁ (small_one (by exact Int.natCast_nonneg _) (by omega) (by exact Int.natCast_nonneg _) (by omega)) e1 hz fun h₂ tk₂ m hS k₂=>?_
 refine h _ m h₂ tk₂ (fun b o e=>k₂ b o (k₁ b o e)) (SetOf_congr hS (fun k=>?_) rfl) (Nat.le_of_lt z₁)
 have e2:(fun (i:Nat)=>(a:Int) + (i:Int) * 1)=fun (i:Nat)=>((a + i:Nat):Int):=by funext i;simp
 rw [firstMet_any,e2]
 unfold inL rng
 rw [List.contains_eq_any_beq]
 congr 1
 funext x
 by_cases hx:x=k
 ·subst hx;rfl
 ·rw [beq_eq_false_iff_ne.mpr hx,beq_eq_false_iff_ne.mpr (Ne.symm hx)]
noncomputable def topV:Stmt→Expr
 | .Assign _ v _=>v
 | _=>.Constant .none 0 default
set_option maxHeartbeats 4000000 in
theorem ev_b1:EvS w (topV (stAt 8)) b1L:=EvS.ofList (ns rfl) (EvL.add (EvL.lits (.cons _ _ _ (.cons _ _ _ (.cons _ _ _ (.cons _ _ _ (.cons _ _ _ (.cons _ _ _ (.cons _ _ _ (.cons _ _ _ (.cons _ _ _ (.cons _ _ _ (.cons _ _ _ .nil))))))))))) (by decide)) (EvL.range (a:=65024) (b:=65040) (by decide) (by decide)) (by decide)) (by decide)
theorem ev_c6:EvS w (topV (stAt 13)) c6L:=EvS.ofRange (a:=65529) (b:=65534) (by decide) (by decide) (by decide)
theorem ev_c7:EvS w (topV (stAt 15)) c7L:=EvS.ofRange (a:=12272) (b:=12284) (by decide) (by decide) (by decide)
theorem ev_c8:EvS w (topV (stAt 17)) c8L:=EvS.ofList (ns rfl) (EvL.add (EvL.add (EvL.lits (.cons _ _ _ (.cons _ _ _ (.cons _ _ _ (.cons _ _ _ .nil)))) (by decide)) (EvL.range (a:=8234) (b:=8239) (by decide) (by decide)) (by decide)) (EvL.range (a:=8298) (b:=8304) (by decide) (by decide)) (by decide)) (by decide)
theorem ev_c9:EvS w (topV (stAt 19)) c9L:=EvS.ofList (ns rfl) (EvL.add (EvL.lits (.cons _ _ _ .nil) (by decide)) (EvL.range (a:=917536) (b:=917632) (by decide) (by decide)) (by decide)) (by decide)
noncomputable def EntOf (kx:Int × Str) (e:DictEntry):Prop:=e.hash=hashInt kx.1∧(∃ t,e.key=.int kx.1 t)∧∃ t,e.val=.str kx.2 t
noncomputable def DOf (h:Heap) (d:Addr) (l:List (Int × Str)):Prop:=∃ es ep,h.get? d=some { cls:=.type "dict",data:=.dict es ep }∧All2 EntOf l es.toList
noncomputable def Over (l:List (Int × Str)) (k:Int):Prop:=∀ x∈l,x.1 < k
theorem all2_mem {α β:Type} {R:α→β→Prop} {l:List α} {m:List β} (x:All2 R l m) (y:β) (h:y∈m):∃ a∈l,R a y:=by
 induction x with
 | nil=>exact memnil h
 | cons a _ ih =>
  rcases List.mem_cons.mp h with rfl | h
  ·exact ⟨_,.head _,a⟩
  ·refine xEA (ih h) fun x hx r=>?_;exact ⟨x,.tail _ hx,r⟩
theorem ent_keys {l:List (Int × Str)} {es:Array DictEntry} (h:All2 EntOf l es.toList):PySem.IntKeys es:=fun e he=>by
 refine xEAAA (all2_mem h e (by simpa using he)) fun x _ h1 z'1 _=>?_;refine xE z'1 fun t h2=>?_
 exact ⟨x.1,t,h2,h1⟩
theorem ent_fresh {l:List (Int × Str)} {es:Array DictEntry} {k:Int} (h:All2 EntOf l es.toList) (ho:Over l k):(es.findIdx? fun e=>Value.isInt k e.key)=none:=by
 rw [Array.findIdx?_eq_none_iff]
 intro e he
 refine xEAAA (all2_mem h e (by simpa using he)) fun x hx _ z'1 _=>?_;refine xE z'1 fun t h2=>?_
 rw [h2]
 show (x.1 == k)=false
 exact beq_eq_false_iff_ne.mpr (Int.ne_of_lt (ho x hx))
section
variable {A:Around} {E:Value→Shared→Prop} {s:Shared} {d:Addr} {l:List (Int × Str)} {k:Int} {x:Str} {t u:Tok} {Q:Unit→Shared→Prop}
theorem put_new {part:Option Value} (H:DOf s.heap d l) (hz:l.length < 4096) (h:∀ h',DOf h' d (l++[(k,x)])→Heap.SameBut d s.heap h'→Q () { s with heap:=h' }) :
  wpAny (model prog w) A (updateDictKeys d (·.push ⟨hashInt k,.int k t,.str x u⟩) part) Q E s:=by
 refine xEEA H fun es ep ho hl=>?_
 have hsz:es.size=l.length:=by have:=hl.length;simpa using this.symm
 refine wpAny_updateDictKeys (o:={ cls:=.type "dict",data:=.dict es ep }) ho rfl (h _ ⟨es.push ⟨hashInt k,.int k t,.str x u⟩,ep + 1,Heap.get?_update_self _ ho rfl,?_⟩ (Heap.SameBut.update ..)) (by rw [hsz];exact Nat.le_trans (Nat.le_of_lt hz) (by decide)) (by simp)
 rw [Array.toList_push]
 exact hl.append (.cons ⟨rfl,⟨t,rfl⟩,u,rfl⟩ .nil)
theorem dictSet_new (H:DOf s.heap d l) (ho:Over l k) (hz:l.length < 4096) (h:∀ h',DOf h' d (l++[(k,x)])→Heap.SameBut d s.heap h'→Q () { s with heap:=h',toks:=s.toks + 1 }) :
  wpAny (model prog w) A (dictSet d (.int k t) (.str x u)) Q E s:=by
 have H':=H
 refine xEEA H' fun es ep hg hl=>?_
 unfold dictSet
 refine wpAny_holding (wpAny_bind (wpAny_pyHash_int ?_))
 unfold dictSetHashed
 refine wpAny_holding (wpAny_bind (wpAny_dictFind_int (s:={ s with toks:=s.toks + 1 }) hg rfl (ent_keys hl) ?_))
 rw [ent_fresh hl ho]
 exact wpAny_bind (wpAny_rule (put_new (s:={ s with toks:=s.toks + 1 }) H hz h))
theorem dictPut_new (H:DOf s.heap d l) (ho:Over l k) (hz:l.length < 4096) (h:∀ h',DOf h' d (l++[(k,x)])→Heap.SameBut d s.heap h'→Q () { s with heap:=h' }) :
  wpAny (model prog w) A (dictPut d (hashInt k) (.int k t) (.str x u)) Q E s:=by
 have H':=H
 refine xEEA H' fun es ep hg hl=>?_
 unfold dictPut
 refine wpAny_bind (wpAny_dictFind_int hg rfl (ent_keys hl) ?_)
 rw [ent_fresh hl ho]
 exact put_new H hz h
end
inductive DLit:List (Option Expr)→List Expr→List (Int × Str)→Prop
 | nil:DLit [] [] []
 | cons {ks vs l} (i:Int) (k:Nat) (p:Pos) (x:Str) (k':Nat) (p':Pos):DLit ks vs l→DLit (some (.Constant (.int i) k p) :: ks) (.Constant (.str x) k' p' :: vs) ((i,x) :: l)
noncomputable def prT (env:Env) (pos:Pos) (k:Expr) (v:Expr):Sem Value × Sem Value:=(eval k env,do let x ← eval v env;standAt pos;pure x)
inductive PrOf (env:Env) (pos:Pos):List (Sem Value × Sem Value)→List (Int × Str)→Prop
 | nil:PrOf env pos [] []
 | cons {r l} (i:Int) (k:Nat) (p:Pos) (x:Str) (k':Nat) (p':Pos):PrOf env pos r l→PrOf env pos (prT env pos (.Constant (.int i) k p) (.Constant (.str x) k' p') :: r) ((i,x) :: l)
theorem PrOf.length {env:Env} {pos:Pos} {r l} (x:PrOf env pos r l):r.length=l.length:=by
 induction x with
 | nil=>rfl
 | cons _ _ _ _ _ _ _ ih=>exact congrArg (· + 1) ih
theorem PrOf.append {env:Env} {pos:Pos} {r l r' l'} (x:PrOf env pos r l) (h':PrOf env pos r' l'):PrOf env pos (r++r') (l++l'):=by
 induction x with
 | nil=>exact h'
 | cons i k p x k' p' _ ih=>exact .cons i k p x k' p' ih
theorem DLit.pairs {env:Env} {pos:Pos} {ks vs l} (x:DLit ks vs l):∃ r,PrOf env pos r l∧(evalEachOpt ks env).zip ((evalEach vs env).map fun v=>do let x ← v;standAt pos;pure x)=r.map fun p=>(some p.1,p.2):=by
 induction x with
 | nil=>exact ⟨[],.nil,rfl⟩
 | cons i k p x k' p' _ ih =>
  refine xEA ih fun r h1 h2=>?_
  exact ⟨_,.cons i k p x k' p' h1,by rw [List.map_cons,← h2];rfl⟩
noncomputable def Asc:List (Int × Str)→Prop
 | []=>True
 | x :: l=>(∀ y∈l,x.1 < y.1)∧Asc l
theorem Asc.split:∀ {l m:List (Int × Str)},Asc (l++m)→Asc l∧Asc m∧∀ x∈l,∀ y∈m,x.1 < y.1
 | [],m,h=>⟨trivial,h,nm⟩
 | x :: l,m,h=>by
  refine xA h fun h1 h2=>?_
  refine xAA (Asc.split h2) fun a b c=>?_
  refine ⟨⟨fun y hy=>h1 y (List.mem_append_left _ hy),a⟩,b,fun y hy z hz=>?_⟩
  rcases List.mem_cons.mp hy with rfl | hy
  ·exact h1 z (List.mem_append_right _ hz)
  ·exact c y hy z hz
theorem Asc.step {acc l:List (Int × Str)} {x:Int × Str} (h:Asc (acc++x :: l)):Over acc x.1∧Asc ((acc++[x])++l):=⟨fun y hy=>(Asc.split h).2.2 y hy x (.head _),by rw [List.append_assoc];exact h⟩
section
variable {A:Around} {E:Value→Shared→Prop} {env:Env} {pos:Pos}
theorem key_int {s:Shared} {i:Int} {k:Nat} {p:Pos} {v:Expr} {Q:Value→Shared→Prop} (h:Q (.int i s.toks) { s with toks:=s.toks + 1 }):wpAny (model prog w) A (prT env pos (.Constant (.int i) k p) v).1 Q E s :=
 wpAny_Constant_int (k:=k) (pos:=p) (env:=env) h
theorem val_str {s:Shared} {x:Str} {k:Nat} {p:Pos} {v:Expr} {Q:Value→Shared→Prop} (h:Q (.str x s.toks) { s with toks:=s.toks + 1 }):wpAny (model prog w) A (prT env pos v (.Constant (.str x) k p)).2 Q E s :=
 wpAny_bind (Constant_str (k:=k) (pos:=p) (env:=env) (wpAny_bind (wpAny_standAt (wpAny_pure h))))
theorem long_pairs {d:Addr}:∀ (r:List (Sem Value × Sem Value)) (l acc:List (Int × Str)) (s:Shared) (Q:PUnit→Shared→Prop),PrOf env pos r l→DOf s.heap d acc→Asc (acc++l)→acc.length + l.length≤4096 →
  (∀ h' tk,DOf h' d (acc++l)→Heap.SameBut d s.heap h'→Q PUnit.unit { s with heap:=h',toks:=tk }) →
  wpAny (model prog w) A (forIn r PUnit.unit fun (x:Sem Value × Sem Value) (_:PUnit)=>(do
    let kv ← x.1
    let vv ← holding [kv] x.2
    holding [kv,vv] (dictSet d kv vv)
    pure (ForInStep.yield PUnit.unit):Sem (ForInStep PUnit))) Q E s:=by
 intro r
 induction r with
 | nil =>
  intro l acc s Q hp H ha hz h
  cases hp
  rw [List.forIn_nil]
  exact wpAny_pure (by simpa using h s.heap s.toks (by simpa using H) (Heap.SameBut.refl _ _))
 | cons y r ih =>
  intro l acc s Q hp H ha hz h
  cases hp with
  | @cons _ l i k p x k' p' hp =>
  rw [List.length_cons] at hz
  refine xA ha.step fun o1 o2=>?_
  rw [List.forIn_cons]
  refine wpAny_bind (wpAny_bind (key_int (wpAny_bind (wpAny_holding (val_str (wpAny_bind (wpAny_holding ?_)))))))
  refine dictSet_new H o1 (by omega) fun h₁ H₁ S₁=>wpAny_pure ?_
  refine ih l (acc++[(i,x)]) _ Q hp H₁ o2 (by rw [List.length_append,List.length_singleton];omega) fun h' tk H' S'=>?_
  exact h h' tk (by rw [List.append_assoc] at H';exact H') (S₁.trans S')
end
end Mine
namespace Mine
open PySem PySem.W PySem.Calls PyProof.Rows
variable {w : World} {A : Around} {E : Value → Shared → Prop} {env : Env} {pos : Pos}
noncomputable def VsOf (kx:Int × Str) (kv:Value × Value):Prop:=∃ t u,kv=(.int kx.1 t,.str kx.2 u)
theorem short_pairs:∀ (r:List (Sem Value × Sem Value)) (l:List (Int × Str)) (s:Shared) (Q:List (Value × Value)→Shared→Prop),PrOf env pos r l→(∀ vs tk,All2 VsOf l vs→Q vs { s with toks:=tk })→wpAny (model prog w) A (evalPairs r) Q E s:=by
 intro r
 induction r with
 | nil =>
  intro l s Q hp h
  cases hp
  exact evalPairs_nil (h [] s.toks .nil)
 | cons y r ih =>
  intro l s Q hp h
  cases hp with
  | @cons _ l i k p x k' p' hp =>
  exact evalPairs_cons (key_int (env:=env) (pos:=pos) (k:=k) (p:=p) (v:=.Constant (.str x) k' p') (val_str (env:=env) (pos:=pos) (k:=k') (p:=p') (v:=.Constant (.int i) k p) (ih l _ _ hp fun vs tk hv=>h _ tk (.cons ⟨_,_,rfl⟩ hv))))
theorem short_store {d:Addr}:∀ (vs:List (Value × Value)) (l acc:List (Int × Str)) (s:Shared) (Q:PUnit→Shared→Prop),All2 VsOf l vs→DOf s.heap d acc→Asc (acc++l)→acc.length + l.length≤4096 →
  (∀ h' tk,DOf h' d (acc++l)→Heap.SameBut d s.heap h'→Q PUnit.unit { s with heap:=h',toks:=tk }) →
  wpAny (model prog w) A (forIn vs PUnit.unit fun (x:Value × Value) (_:PUnit)=>(do dictSet d x.1 x.2;pure (ForInStep.yield PUnit.unit):Sem (ForInStep PUnit))) Q E s:=by
 intro vs
 induction vs with
 | nil =>
  intro l acc s Q hp H ha hz h
  cases hp
  rw [List.forIn_nil]
  exact wpAny_pure (by simpa using h s.heap s.toks (by simpa using H) (Heap.SameBut.refl _ _))
 | cons y r ih =>
  intro l acc s Q hp H ha hz h
  cases hp with
  | @cons kx _ l _ hy hp =>
  refine xEE hy fun t u q'1=>?_;try clear hy;subst q'1
  rw [List.length_cons] at hz
  refine xA ha.step fun o1 o2=>?_
  rw [List.forIn_cons]
  refine wpAny_bind (wpAny_bind (dictSet_new H o1 (by omega) fun h₁ H₁ S₁=>wpAny_pure ?_))
  refine ih l (acc++[kx]) _ Q hp H₁ o2 (by rw [List.length_append,List.length_singleton];omega) fun h' tk H' S'=>?_
  exact h h' tk (by rw [List.append_assoc] at H';exact H') (S₁.trans S')
theorem sub_dict {r:List (Sem Value × Sem Value)} {l:List (Int × Str)} {s:Shared} {Q:Addr→Shared→Prop} (hp:PrOf env pos r l) (ha:Asc l) (hz:l.length≤17)
  (h:∀ h' tk,DOf h' s.heap.objs.size l→(∀ b o,s.heap.get? b=some o→h'.get? b=some o)→Q s.heap.objs.size { s with heap:=h',toks:=tk }):wpAny (model prog w) A (subDict r) Q E s:=by
 have H0:DOf (s.heap.push { cls:=.type "dict",data:=.dict #[] }) s.heap.objs.size []:=⟨#[],0,Heap.get?_push_size _ rfl,.nil⟩
 have fin:∀ h' tk,DOf h' s.heap.objs.size ([]++l)→Heap.SameBut s.heap.objs.size (s.heap.push { cls:=.type "dict",data:=.dict #[] }) h'→Q s.heap.objs.size { s with heap:=h',toks:=tk }:=fun h' tk H' S' =>
  h h' tk H' fun b o e=>(S'.2 b (Nat.ne_of_lt (Heap.lt_size e))).trans (Heap.get?_push_of_some _ e)
 unfold subDict
 refine wpAny_bind (wpAny_alloc (wpAny_bind (wpAny_holding ?_)))
 by_cases hl:r.length≤15
 ·rw [if_pos hl]
  refine wpAny_bind (short_pairs r l _ _ hp fun vs tk hv=>wpAny_holding ?_)
  refine wpAny_bind (short_store vs l [] _ _ hv H0 ha (by simpa using Nat.le_trans hz (by decide)) fun h' tk' H' S'=>wpAny_pure (wpAny_pure (fin h' tk' H' S')))
 ·rw [if_neg hl]
  refine wpAny_bind (wpAny_rule ?_)
  refine wpAny_bind (long_pairs r l [] _ _ hp H0 ha (by simpa using Nat.le_trans hz (by decide)) fun h' tk' H' S'=>wpAny_pure (wpAny_pure (fin h' tk' H' S')))
theorem merge_turns {d a:Addr} {es:Array DictEntry} {ep:Nat} {l0:List (Int × Str)} {f:Nat→PUnit→Sem (ForInStep PUnit)} (hda:a≠d) (hl:All2 EntOf l0 es.toList)
  (hf:∀ (i:Nat) (e:DictEntry) (s:Shared) (Q:ForInStep PUnit→Shared→Prop),es[i]?=some e→s.heap.get? a=some { cls:=.type "dict",data:=.dict es ep }→wpAny (model prog w) A (dictPut d e.hash e.key e.val) (fun _ s'=>s'.heap.get? a=some { cls:=.type "dict",data:=.dict es ep }∧Q (.yield PUnit.unit) s') E s→wpAny (model prog w) A (f i PUnit.unit) Q E s):∀ (m i:Nat) (acc:List (Int × Str)) (s:Shared) (Q:PUnit→Shared→Prop),i + m=es.size→s.heap.get? a=some { cls:=.type "dict",data:=.dict es ep } →
  DOf s.heap d (acc++l0.take i)→Asc (acc++l0)→acc.length + l0.length≤4096 →
  (∀ h',DOf h' d (acc++l0)→Heap.SameBut d s.heap h'→Q PUnit.unit { s with heap:=h' }) →
  wpAny (model prog w) A (forIn (List.range' i m) PUnit.unit f) Q E s:=by
 have hsz:es.size=l0.length:=by have:=hl.length;simpa using this.symm
 intro m
 induction m with
 | zero =>
  intro i acc s Q hi hg H ha hz h
  rw [show List.range' i 0=[] from rfl,List.forIn_nil]
  rw [List.take_of_length_le (by omega)] at H
  exact wpAny_pure (h s.heap H (Heap.SameBut.refl _ _))
 | succ m ih =>
  intro i acc s Q hi hg H ha hz h
  have hil:i < l0.length:=by omega
  refine xEAAA (hl.get i (List.getElem?_eq_getElem hil)) fun e he r1 z'1 r'2=>?_;refine xE z'1 fun t r2=>?_;refine xE r'2 fun u r3=>?_
  rw [Array.getElem?_toList] at he
  rw [List.range'_succ,List.forIn_cons]
  have eT:l0=l0.take i++l0[i] :: l0.drop (i + 1):=by rw [List.getElem_cons_drop,List.take_append_drop]
  have eN:l0.take i++[l0[i]]=l0.take (i + 1):=by rw [List.take_add_one,List.getElem?_eq_getElem hil];rfl
  have ha':=ha
  rw [eT,← List.append_assoc] at ha'
  refine wpAny_bind (hf i e s _ he hg ?_)
  rw [r1,r2,r3]
  refine dictPut_new H ha'.step.1 (by simp only [List.length_append,List.length_take];omega) fun h₁ H₁ S₁=>?_
  have hg₁:h₁.get? a=some { cls:=.type "dict",data:=.dict es ep }:=(S₁.2 a hda).trans hg
  refine ⟨hg₁,?_⟩
  rw [List.append_assoc,eN] at H₁
  exact ih (i + 1) acc _ Q (by omega) hg₁ H₁ ha hz fun h' H' S'=>h h' H' (S₁.trans S')
theorem merge_in {d a:Addr} {acc l0:List (Int × Str)} {s:Shared} {Q:Unit→Shared→Prop} (hda:a≠d) (H:DOf s.heap d acc) (Ha:DOf s.heap a l0) (hne:acc≠[]) (hsm:(a == sysModules)=false) (ha:Asc (acc++l0)) (hz:acc.length + l0.length≤4096)
  (h:∀ h',DOf h' d (acc++l0)→Heap.SameBut d s.heap h'→Q () { s with heap:=h' }):wpAny (model prog w) A (mergeMapping d (.ref a) false) Q E s:=by
 refine xEEA Ha fun es ep hg hl=>?_
 have hsz:es.size=l0.length:=by have:=hl.length;simpa using this.symm
 have hT:s.TypeIs (.ref a) "dict":=⟨_,hg,rfl⟩
 have H':=H
 refine xEEA H' fun ed epd hgd hld=>?_
 have hnd:ed.isEmpty=false:=by
  have e1:=hld.length
  have:ed.size=acc.length:=by simpa using e1.symm
  have:0 < acc.length:=List.length_pos_iff.mpr hne
  simp [Array.isEmpty];intro q;subst q;simp at *;trivial
 unfold mergeMapping
 refine wpAny_bind (wpAny_isInstance hT isSubtype_dict_dict ?_)
 refine wpAny_bind (wpAny_specialOf hT F.slot_dict_iter.lookup (wpAny_bind (wpAny_pure ?_)))
 show wpAny _ _ (if (a == sysModules)=true then _ else _) _ _ _
 rw [hsm,if_neg Bool.false_ne_true]
 refine wpAny_bind (wpAny_dictEntries hgd rfl ?_)
 rw [hnd,if_neg Bool.false_ne_true]
 refine wpAny_bind (wpAny_dictEntries hg rfl (wpAny_bind (wpAny_dictEpoch hg rfl ?_)))
 rw [List.range_eq_range']
 refine wpAny_bind ?_
 simp only [Bool.false_eq_true,if_false]
 refine merge_turns (ep:=ep) hda hl (fun i e s Q he hg hp=>?_) es.size 0 acc s _ (by exact Nat.add_comm _ _) hg (by simpa using H) ha hz fun h' H' S'=>?_
 ·refine wpAny_bind (wpAny_dictEntries hg rfl ?_)
  rw [he]
  refine wpAny_bind (wpAny_holding (wpAny_mono hp (fun _ s' hs=>?_) fun _ _ x=>x))
  refine wpAny_bind (wpAny_dictEpoch hs.1 rfl ?_)
  rw [if_neg (by simp)]
  exact wpAny_pure hs.2
 ·exact wpAny_pure (h h' H' S')
noncomputable def MainIs (h0 h:Heap) (main:Option Addr) (acc:List (Int × Str)):Prop:=(main=none∧acc=[])∨∃ d,main=some d∧acc≠[]∧DOf h d acc∧h0.objs.size≤d
theorem flush_run {h0:Heap} {run:List (Sem Value × Sem Value)} {rl acc:List (Int × Str)} {main:Option Addr} {s:Shared} {Q:Option Addr→Shared→Prop} (hsm:sysModules < h0.objs.size) (hp:PrOf env pos run rl) (hz:rl.length≤17) (hne:rl≠[]) (ha:Asc (acc++rl)) (hz2:acc.length + rl.length≤4096)
  (k0:∀ b o,h0.get? b=some o→s.heap.get? b=some o) (z0:h0.objs.size≤s.heap.objs.size) (M:MainIs h0 s.heap main acc)
  (h:∀ d h' tk,MainIs h0 h' (some d) (acc++rl)→(∀ b o,h0.get? b=some o→h'.get? b=some o)→h0.objs.size≤h'.objs.size→Q (some d) { s with heap:=h',toks:=tk }) :
  (main=none→wpAny (model prog w) A (subDict run) (fun d s'=>Q (some d) s') E s) ∧
  (∀ d,main=some d→wpAny (model prog w) A (subDict run) (fun sub s'=>wpAny (model prog w) A (mergeMapping d (.ref sub) false) (fun _ s''=>Q (some d) s'') E s') E s):=by
 rcases M with ⟨rfl,rfl⟩ | ⟨d,rfl,n,⟨es,ep,hg,hl⟩,z⟩
 ·refine ⟨fun _=>?_,nofun⟩
  refine sub_dict hp ha hz fun h' tk H k=>?_
  have z1:s.heap.objs.size < h'.objs.size:=by refine xEEA H fun _ _ e _=>?_;exact Heap.lt_size e
  exact h _ h' tk (.inr ⟨_,rfl,hne,H,z0⟩) (fun b o e=>k b o (k0 b o e)) (Nat.le_trans z0 (Nat.le_of_lt z1))
 ·refine ⟨nofun,fun d' e=>?_⟩
  obtain rfl:=Option.some.inj e
  have hd:=Heap.lt_size hg
  refine sub_dict hp (Asc.split ha).2.1 hz fun h' tk H k=>?_
  have z1:s.heap.objs.size < h'.objs.size:=by refine xEEA H fun _ _ e _=>?_;exact Heap.lt_size e
  refine merge_in (s:={ s with heap:=h',toks:=tk }) (Nat.ne_of_gt hd) ⟨es,ep,k _ _ hg,hl⟩ H n (beq_eq_false_iff_ne.mpr (Nat.ne_of_gt (Nat.lt_of_lt_of_le hsm z0))) ha hz2 fun h₂ H₂ S₂=>?_
  refine h d h₂ tk (.inr ⟨d,rfl,by simp [hne],H₂,z⟩) (fun b o e=>(S₂.2 b (Nat.ne_of_lt (Nat.lt_of_lt_of_le (Heap.lt_size e) z))).trans (k _ _ (k0 b o e))) ?_
  rw [S₂.1];exact Nat.le_trans z0 (Nat.le_of_lt z1)
theorem display_loop {h0:Heap} {f:(Option (Sem Value) × Sem Value)→(Option Addr × List (Sem Value × Sem Value))→Sem (ForInStep (Option Addr × List (Sem Value × Sem Value)))} (hsm:sysModules < h0.objs.size)
  (hf1:∀ (p:Sem Value × Sem Value) main run (s:Shared) (Q:_→Shared→Prop),run.length + 1≠17→Q (.yield (main,run++[p])) s→wpAny (model prog w) A (f (some p.1,p.2) (main,run)) Q E s)
  (hf2:∀ (p:Sem Value × Sem Value) main run (s:Shared) (Q:_→Shared→Prop),run.length + 1=17→(main=none→wpAny (model prog w) A (subDict (run++[p])) (fun d s'=>Q (.yield (some d,[])) s') (fun _ _=>False) s) →
   (∀ d,main=some d→wpAny (model prog w) A (subDict (run++[p])) (fun sub s'=>wpAny (model prog w) A (mergeMapping d (.ref sub) false) (fun _ s''=>Q (.yield (some d,[])) s'') (fun _ _=>False) s') (fun _ _=>False) s)→wpAny (model prog w) A (f (some p.1,p.2) (main,run)) Q E s) :
  ∀ (r:List (Sem Value × Sem Value)) (l:List (Int × Str)) (run:List (Sem Value × Sem Value)) (rl acc:List (Int × Str)) (main:Option Addr) (s:Shared) (Q:_→Shared→Prop),PrOf env pos r l→PrOf env pos run rl→run.length < 17→MainIs h0 s.heap main acc →
  (∀ b o,h0.get? b=some o→s.heap.get? b=some o)→h0.objs.size≤s.heap.objs.size→Asc (acc++(rl++l))→acc.length + (rl.length + l.length)≤4096 →
  (∀ main' run' rl' acc' h' tk,PrOf env pos run' rl'→run'.length < 17→MainIs h0 h' main' acc'→(∀ b o,h0.get? b=some o→h'.get? b=some o)→h0.objs.size≤h'.objs.size→acc'++rl'=acc++(rl++l)→Q (main',run') { s with heap:=h',toks:=tk }) →
  wpAny (model prog w) A (forIn (r.map fun p=>(some p.1,p.2)) (main,run) f) Q E s:=by
 intro r
 induction r with
 | nil =>
  intro l run rl acc main s Q hp hrun hlen M k0 z0 ha hz h
  cases hp
  rw [List.map_nil,List.forIn_nil]
  exact wpAny_pure (h main run rl acc s.heap s.toks hrun hlen M k0 z0 (by simp))
 | cons y r ih =>
  intro l run rl acc main s Q hp hrun hlen M k0 z0 ha hz h
  cases hp with
  | @cons _ l i k p x k' p' hp =>
  have h1:PrOf env pos (run++[prT env pos (.Constant (.int i) k p) (.Constant (.str x) k' p')]) (rl++[(i,x)]):=hrun.append (.cons i k p x k' p' .nil)
  have e1:rl++(i,x) :: l=(rl++[(i,x)])++l:=by simp
  have l1:=hrun.length
  rw [e1] at ha h
  rw [List.length_cons] at hz
  rw [List.map_cons,List.forIn_cons]
  refine wpAny_bind ?_
  by_cases hc:run.length + 1=17
  ·have hA:=(Asc.split (by rw [← List.append_assoc] at ha;exact ha)).1
   have hQ:∀ (E':Value→Shared→Prop),_∧_:=fun E'=>flush_run (w:=w) (A:=A) (E:=E') (Q:=fun m s'=>wpAny (model prog w) A (forIn (r.map fun p=>(some p.1,p.2)) (m,[]) f) Q E s') hsm h1 (by rw [List.length_append,List.length_singleton];omega) (by simp) hA (by simp only [List.length_append,List.length_singleton];omega) k0 z0 M fun d h' tk M' k' z'=>by
    refine ih l [] [] (acc++(rl++[(i,x)])) (some d) _ Q hp .nil (by decide) M' k' z' (by rw [List.nil_append,List.append_assoc];exact ha) (by simp only [List.length_append,List.length_singleton,List.length_nil];omega) fun main' run' rl' acc' h'' tk'' a b c d e g=>?_
    exact h main' run' rl' acc' h'' tk'' a b c d e (by rw [g];exact List.append_assoc ..)
   exact hf2 _ main run s _ hc (fun e=>(hQ _).1 e) fun d e=>(hQ _).2 d e
  ·refine hf1 _ main run s _ hc ?_
   refine ih l _ _ acc main s Q hp h1 (by rw [List.length_append,List.length_singleton];omega) M k0 z0 ha (by simp only [List.length_append,List.length_singleton];omega) fun main' run' rl' acc' h'' tk'' a b c d e g=>?_
   exact h main' run' rl' acc' h'' tk'' a b c d e g
theorem ev_dict {ks:List (Option Expr)} {vs:List Expr} {l:List (Int × Str)} {s:Shared} {Q:Value→Shared→Prop} (hl:DLit ks vs l) (ha:Asc l) (hne:l≠[]) (hz:l.length≤4096) (hsm:sysModules < s.heap.objs.size)
  (h:∀ d h' tk,DOf h' d l→(∀ b o,s.heap.get? b=some o→h'.get? b=some o)→s.heap.objs.size≤d→Q (.ref d) { s with heap:=h',toks:=tk }):wpAny (model prog w) A (eval (.Dict ks vs pos) env) Q E s:=by
 rw [arm_eval_Dict]
 refine xEA (hl.pairs (env:=env) (pos:=pos)) fun r hp he=>?_
 rw [he]
 refine wpAny_bind (wpAny_standAt ?_)
 unfold dictDisplay
 dsimp only
 refine wpAny_bind ?_
 refine display_loop (env:=env) (pos:=pos) hsm (fun p main run s Q hc hq=>?_) (fun p main run s Q hc q1 q2=>?_) r l [] [] [] none s _ hp .nil (by decide) (.inl ⟨rfl,rfl⟩) (fun _ _ e=>e) (Nat.le_refl _) ha (by simpa using hz) fun main' run' rl' acc' h' tk hrun hlen M k0 z0 e=>?_
 ·have hb:((run++[(p.1,p.2)]).length == 17)=false:=by simpa using hc
  dsimp only
  rw [hb,if_neg Bool.false_ne_true]
  exact wpAny_pure hq
 ·have hb:((run++[(p.1,p.2)]).length == 17)=true:=by simpa using hc
  dsimp only
  rw [hb,if_pos rfl]
  have hne2:(run++[(p.1,p.2)]).isEmpty=false:=by simp
  rw [hne2,if_neg Bool.false_ne_true]
  cases main with
  | none =>
   dsimp only
   refine wpAny_bind (wpAny_bind (wpAny_mono (q1 rfl) (fun d s' hd=>?_) fun _ _ x=>x.elim))
   exact wpAny_pure (wpAny_pure hd)
  | some d =>
   dsimp only
   refine wpAny_bind (wpAny_bind (wpAny_holding (wpAny_mono (q2 d rfl) (fun sub s' hd=>?_) fun _ _ x=>x.elim)))
   refine wpAny_bind (wpAny_onRaise (wpAny_holding (wpAny_mono hd (fun _ s'' hq=>?_) fun _ _ x=>x.elim)))
   exact wpAny_pure (wpAny_pure hq)
 ·have z17:rl'.length≤17:=by have:=hrun.length;omega
  rw [List.nil_append,List.nil_append] at e
  have lenE:acc'.length + rl'.length=l.length:=by rw [← e,List.length_append]
  by_cases hr:run'=[]
  ·subst hr
   cases hrun
   rw [List.append_nil] at e
   subst e
   rcases M with ⟨rfl,rfl⟩ | ⟨d,rfl,n,H,z⟩
   ·exact absurd rfl hne
   ·exact wpAny_bind (wpAny_pure (wpAny_pure (h d h' tk H k0 z)))
  ·have hrne:rl'≠[]:=by
    rintro rfl
    cases hrun
    exact hr rfl
   have hb:run'.isEmpty=false:=by
    cases run' with
    | nil=>exact absurd rfl hr
    | cons=>rfl
   rw [← e] at ha
   have F:=fun (E':Value→Shared→Prop)=>flush_run (w:=w) (A:=A) (E:=E') (s:={ s with heap:=h',toks:=tk }) (Q:=fun m s'=>wpAny (model prog w) A (match m with | some d=>pure (.ref d) | none=>newDict) Q E s') hsm hrun z17 hrne ha (by omega) k0 z0 M fun d h'' tk' M' k' z'=>by
    rcases M' with ⟨q,_⟩ | ⟨d',q,n,H,z⟩
    ·exact somen q
    ·obtain rfl:=Option.some.inj q
     rw [e] at H
     exact wpAny_pure (h d h'' tk' H k' z)
   rw [hb,if_neg Bool.false_ne_true]
   cases main' with
   | none =>
    dsimp only
    exact wpAny_bind (wpAny_bind (wpAny_mono ((F fun _ _=>False).1 rfl) (fun d s' hd=>wpAny_pure hd) fun _ _ x=>x.elim))
   | some d =>
    dsimp only
    refine wpAny_bind (wpAny_bind (wpAny_holding (wpAny_mono ((F fun _ _=>False).2 d rfl) (fun sub s' hd=>?_) fun _ _ x=>x.elim)))
    exact wpAny_bind (wpAny_onRaise (wpAny_holding (wpAny_mono hd (fun _ s'' hq=>wpAny_pure hq) fun _ _ x=>x.elim)))
noncomputable def dictOk:List (Option Expr)→List Expr→Bool
 | [],[]=>true
 | some (.Constant (.int _) _ _) :: ks,.Constant (.str _) _ _ :: vs=>dictOk ks vs
 | _,_=>false
theorem dictOk_is:∀ (ks:List (Option Expr)) (vs:List Expr),dictOk ks vs=true→DLit ks vs (ks.zipWith (fun k v=>((k.map constI).getD 0,constS v)) vs):=by
 intro ks
 induction ks with
 | nil =>
  intro vs h
  cases vs with
  | nil=>exact .nil
  | cons=>exact Bool.noConfusion (h:false=true)
 | cons k ks ih =>
  intro vs h
  cases vs with
  | nil=>cases k with
   | none=>exact Bool.noConfusion (h:false=true)
   | some k=>cases k with
    | Constant c _ _=>cases c <;> exact Bool.noConfusion (h:false=true)
    | _=>exact Bool.noConfusion (h:false=true)
  | cons v vs=>cases k with
   | none=>exact Bool.noConfusion (h:false=true)
   | some k=>cases k with
    | Constant c _ _=>cases c with
     | int i=>cases v with
      | Constant c _ _=>cases c with
       | str x=>exact .cons _ _ _ _ _ _ (ih vs h)
       | _=>exact Bool.noConfusion (h:false=true)
      | _=>exact Bool.noConfusion (h:false=true)
     | _=>exact Bool.noConfusion (h:false=true)
    | _=>exact Bool.noConfusion (h:false=true)
noncomputable def ascB:Int→List (Int × Str)→Bool
 | _,[]=>true
 | k,x :: l=>decide (k < x.1) && ascB x.1 l
theorem ascB_over:∀ {l:List (Int × Str)} {k:Int},ascB k l=true→∀ y∈l,k < y.1
 | [],_,_,_,h=>nomatch h
 | x :: l,k,h,y,hy=>by
  refine xA (Bool.and_eq_true_iff.mp h) fun h1 h2=>?_
  have h1:=of_decide_eq_true h1
  rcases List.mem_cons.mp hy with rfl | hy
  ·exact h1
  ·exact Int.lt_trans h1 (ascB_over h2 y hy)
theorem ascB_is:∀ {l:List (Int × Str)} {k:Int},ascB k l=true→Asc l
 | [],_,_=>trivial
 | x :: l,k,h=>by
  refine xA (Bool.and_eq_true_iff.mp h) fun _ h2=>?_
  exact ⟨ascB_over h2,ascB_is h2⟩
noncomputable def dKs:Expr→List (Option Expr)
 | .Dict ks _ _=>ks
 | _=>[]
noncomputable def dVs:Expr→List Expr
 | .Dict _ vs _=>vs
 | _=>[]
noncomputable def dPos:Expr→Pos
 | .Dict _ _ p=>p
 | _=>default
theorem b3_text:topV (stAt 10)=.Dict (dKs (topV (stAt 10))) (dVs (topV (stAt 10))) (dPos (topV (stAt 10))):=by kernel_rfl
theorem b3_lit:DLit (dKs (topV (stAt 10))) (dVs (topV (stAt 10))) b3L:=dictOk_is _ _ (by decide +kernel)
theorem b3_asc:Asc b3L:=ascB_is (k:=0) (by decide +kernel)
theorem b3_ne:b3L≠[]:=by
 have:0 < b3L.length:=by decide +kernel
 exact List.length_pos_iff.mp this
theorem b3_len:b3L.length≤4096:=by decide +kernel
theorem dof_map {h:Heap} {d:Addr} {l:List (Int × Str)} (H:DOf h d l):∃ f,h.MapOf (intKind prog w) d f∧∀ k,match l.lookup k with | some x=>∃ t,f k=some (.str x t) | none=>f k=none:=by
 refine xEEA H fun es ep hg hl=>?_
 refine ⟨_,⟨_,es,ep,hg,⟨rfl,rfl,rfl⟩,rfl,fun e he=>?_,fun k=>rfl⟩,fun k=>?_⟩
 ·refine xEAAA (all2_mem hl e (by simpa using he)) fun x _ h1 z'1 _=>?_;refine xE z'1 fun t h2=>?_
  exact ⟨x.1,by rw [h2];simp [intKind,Value.isInt],h1⟩
 ·unfold findBy
  obtain ⟨m⟩:=es
  have key:∀ {l:List (Int × Str)} {m:List DictEntry},All2 EntOf l m→match l.lookup k with | some x=>∃ t,(m.find? fun e=>(intKind prog w).is k e.key).map (·.val)=some (.str x t) | none=>(m.find? fun e=>(intKind prog w).is k e.key).map (·.val)=none:=by
   intro l m h
   induction h with
   | nil=>simp
   | @cons a b l m r _ ih =>
    refine xAA r fun _ z'1 r'2=>?_;refine xE z'1 fun t h2=>?_;refine xE r'2 fun u h3=>?_
    obtain ⟨i,x⟩:=a
    rw [List.lookup_cons,List.find?_cons]
    have e1:(intKind prog w).is k b.key=(k == i):=by
     rw [h2]
     show (i == k)=(k == i)
     exact BEq.comm
    rw [e1]
    cases hk:k == i with
    | true=>exact ⟨u,by simp [h3]⟩
    | false=>exact ih
  simpa using key hl
end Mine
namespace Mine
open PySem PySem.W PySem.Calls PyProof.Rows
variable {w : World} {A : Around} {E : Value → Shared → Prop}
noncomputable def fName:Stmt→Str
 | .FunctionDef n _ _ _ _ _ _ _ _ _=>n
 | _=>""
noncomputable def fPos:Stmt→Pos
 | .FunctionDef _ _ _ _ _ _ _ _ _ p=>p
 | _=>default
noncomputable def FnTop (base:Heap) (mg:Str→Option Value) (h:Heap) (i:Nat):Prop :=
 ∃ a c P pm,mg (fName (stAt i))=some (.ref a)∧base.objs.size≤a∧base.objs.size≤c∧base.objs.size≤P∧h.get? a=some { cls:=.type "function",data:=.func (fdAt i (fName (stAt i)) pm (.ref c)) }∧h.CodeRec (.ref c) (fName (stAt i))∧h.IsCode c P #[]∧h.TableAt c P #[]
noncomputable def SetTop0 (w:World) (base:Heap) (mg:Str→Option Value) (h:Heap) (x:Str × List Int):Prop:=∃ a n,mg x.1=some (.ref a)∧base.objs.size≤a∧h.SetOf (intKind prog w) a (inL x.2) n
noncomputable def DictTop0 (base:Heap) (mg:Str→Option Value) (h:Heap):Prop:=∃ a,mg ("b3_exceptions":Str)=some (.ref a)∧base.objs.size≤a∧DOf h a b3L
structure TopS (w:World) (base:Heap) (mg0:Str→Option Value) (fs:List Nat) (ss:List (Str × List Int)) (dd:Bool) (nm:List Str) (pl:List (Nat × Nat)) (mg:Str→Option Value) (l:List (Pos × Addr)) (h:Heap):Prop where
 main:h.Main mg 31 30 (triples l).toArray
 keep:∀ b o,b≠30→b≠mainGlobals→base.get? b=some o→h.get? b=some o
 size:base.objs.size≤h.objs.size
 poss:l.map (fun q=>(q.1.line,q.1.col))=pl
 fns:∀ i∈fs,fName (stAt i)∈nm∧FnTop base mg h i
 sets:∀ x∈ss,x.1∈nm∧SetTop0 w base mg h x
 dict:dd=true→("b3_exceptions":Str)∈nm∧DictTop0 base mg h
 other:∀ x,x∉nm→mg x=mg0 x
 big:200 < base.objs.size
variable {base:Heap} {mg0 mg:Str→Option Value} {fs:List Nat} {ss:List (Str × List Int)} {dd:Bool} {nm:List Str} {pl:List (Nat × Nat)} {l:List (Pos × Addr)}
theorem TopS.off {h:Heap} (T:TopS w base mg0 fs ss dd nm pl mg l h) {b:Addr} (hb:base.objs.size≤b):b≠30∧b≠mainGlobals:=by
 have:=T.big
 exact ⟨Nat.ne_of_gt (Nat.lt_of_lt_of_le (show 30 < base.objs.size by omega) hb),Nat.ne_of_gt (Nat.lt_of_lt_of_le (show 3 < base.objs.size by omega) hb)⟩
theorem SetOf.at {h h':Heap} {a:Addr} {S:Int→Bool} {n:Nat} (H:h.SetOf (intKind prog w) a S n) (k:∀ o,h.get? a=some o→h'.get? a=some o):h'.SetOf (intKind prog w) a S n:=by
 refine xEEEEA H fun o es ep t e q=>?_
 exact ⟨o,es,ep,t,k _ e,q⟩
theorem TopS.bind {h h':Heap} {n:Str} {v:Value} {l':List (Pos × Addr)} {pl':List (Nat × Nat)} (T:TopS w base mg0 fs ss dd nm pl mg l h) (hn:n∉nm) (hm:h'.Main (fun x=>if x=n then some v else mg x) 31 30 (triples l').toArray) (hl:l'.map (fun q=>(q.1.line,q.1.col))=pl')
  (k:∀ b o,b≠30→b≠mainGlobals→h.get? b=some o→h'.get? b=some o) (z:h.objs.size≤h'.objs.size):TopS w base mg0 fs ss dd (nm++[n]) pl' (fun x=>if x=n then some v else mg x) l' h':=by
 have ne:∀ {x},x∈nm→x≠n:=fun hx e=>hn (e ▸ hx)
 refine ⟨hm,fun b o h1 h2 e=>k b o h1 h2 (T.keep b o h1 h2 e),Nat.le_trans T.size z,hl,fun i hi=>?_,fun x hx=>?_,fun hd=>?_,fun x hx=>?_,T.big⟩
 ·refine xAEEEEAAAAAAA (T.fns i hi) fun h1 a c P pm e1 la lc lP ho hc hi1 ht1=>?_
  refine ⟨List.mem_append_left _ h1,a,c,P,pm,?_,la,lc,lP,k _ _ (T.off la).1 (T.off la).2 ho,hc.at fun o=>k _ o (T.off lc).1 (T.off lc).2,?_,?_⟩
  ·show (if fName (stAt i)=n then _ else _)=_
   rw [if_neg (ne h1)];exact e1
  ·refine xEEEE hi1 fun o vs file tf r'1=>?_;refine xEEEE r'1 fun flags tg inF text r'2=>?_;refine xEEAAAAAA r'2 fun tt op a r1 r2 r3 r4 r5 r'3=>?_;refine xAA r'3 fun r6 b r=>?_
   exact ⟨o,vs,file,tf,flags,tg,inF,text,tt,op,k _ _ (T.off lc).1 (T.off lc).2 a,r1,r2,r3,r4,r5,r6,k _ _ (T.off lP).1 (T.off lP).2 b,r⟩
  ·refine xA ht1 fun z'1 t=>?_;refine xEEA z'1 fun o vs e r=>?_
   exact ⟨⟨o,vs,k _ _ (T.off lc).1 (T.off lc).2 e,r⟩,k _ _ (T.off lP).1 (T.off lP).2 t⟩
 ·refine xAEEAA (T.sets x hx) fun h1 a m e1 la H=>?_
  refine ⟨List.mem_append_left _ h1,a,m,?_,la,SetOf.at H fun o=>k _ o (T.off la).1 (T.off la).2⟩
  show (if x.1=n then _ else _)=_
  rw [if_neg (ne h1)];exact e1
 ·refine xAEA (T.dict hd) fun h1 a e1 r'1=>?_;refine xAEEA r'1 fun la es ep hg H=>?_
  refine ⟨List.mem_append_left _ h1,a,?_,la,es,ep,k _ _ (T.off la).1 (T.off la).2 hg,H⟩
  show (if ("b3_exceptions":Str)=n then _ else _)=_
  rw [if_neg (ne h1)];exact e1
 ·show (if x=n then _ else _)=_
  have h1:x≠n:=fun e=>hx (e ▸ List.mem_append_right _ (.head _))
  rw [if_neg h1]
  exact T.other x fun h=>hx (List.mem_append_left _ h)
theorem TopS.store {s:Shared} {n:Str} {v:Value} {Q:Unit→Shared→Prop} {h₀:Heap} (T:TopS w base mg0 fs ss dd nm pl mg l h₀) (hn:n∉nm) (hb:n≠"__builtins__") (hk:env0.kindOf n=some .local) (k:∀ b o,h₀.get? b=some o→s.heap.get? b=some o) (z:h₀.objs.size≤s.heap.objs.size)
  (h:∀ h',TopS w base mg0 fs ss dd (nm++[n]) pl (fun x=>if x=n then some v else mg x) l h'→(∀ b o,b≠mainGlobals→s.heap.get? b=some o→h'.get? b=some o)→Q () { s with heap:=h',toks:=s.toks + 1 }) :
  wpAny (model prog w) A (storeName env0 n v) Q E s:=by
 have M:=T.main
 refine wpAny_storeName_local (env:=env0) hk (M.g.keeps k) (fun h' hg' hs'=>h h' (T.bind hn ⟨hg',(M.code.keeps k).sameBut hs' (Nat.ne_of_gt M.low.1) (Nat.ne_of_gt M.low.2),M.low,?_⟩ T.poss (fun b o _ h2 e=>(hs'.2 _ h2).trans (k _ _ e)) (by rw [hs'.1];exact z)) fun b o h2 e=>(hs'.2 _ h2).trans e) (by rfl)
 refine xEEAAA M.bmod fun bm o hbm hne0 hneG r'1=>?_;refine xAA r'1 fun hneP hbo hrest=>?_
 exact ⟨bm,o,by simp only [Ne.symm hb,if_false];exact hbm,hne0,hneG,hneP,(hs'.2 _ hneG).trans (k _ _ hbo),hrest⟩
end Mine
namespace Mine
open PySem PySem.W PySem.Calls PyProof.Rows
variable {w : World} {A : Around} {E : Value → Shared → Prop}
variable {base : Heap} {mg0 mg : Str → Option Value} {fs : List Nat} {ss : List (Str × List Int)} {dd : Bool} {nm : List Str} {pl : List (Nat × Nat)} {l : List (Pos × Addr)}
noncomputable def PlainAt (i:Nat):Prop:=stAt i=.FunctionDef (fName (stAt i)) (fArgs (stAt i)) (fBody (stAt i)) [] none [] (fScope (stAt i)) none (fName (stAt i)) (fPos (stAt i))∧PlainDefTree (fName (stAt i)) (fArgs (stAt i)) (fBody (stAt i)) (fScope (stAt i)) (fPos (stAt i)) ∧
 (fScope (stAt i)).names.all (fun x=>x.2 != .free)=true∧docOf (fBody (stAt i))=none∧prog.main.scope.names.lookup (fName (stAt i))=some .local∧qualnameIn { scope:=prog.main.scope,locals:=mainGlobals,globals:=mainGlobals,cells:=[] } (fName (stAt i)) (fName (stAt i))=fName (stAt i)∧fName (stAt i)≠"__builtins__"
theorem plain9:PlainAt 9:=⟨rfl,by intro env;rfl,by decide +kernel,by kernel_rfl,by kernel_rfl,by kernel_rfl,by decide +kernel⟩
theorem plain11:PlainAt 11:=⟨rfl,by intro env;rfl,by decide +kernel,by kernel_rfl,by kernel_rfl,by kernel_rfl,by decide +kernel⟩
theorem plain12:PlainAt 12:=⟨rfl,by intro env;rfl,by decide +kernel,by kernel_rfl,by kernel_rfl,by kernel_rfl,by decide +kernel⟩
theorem plain14:PlainAt 14:=⟨rfl,by intro env;rfl,by decide +kernel,by kernel_rfl,by kernel_rfl,by kernel_rfl,by decide +kernel⟩
theorem plain16:PlainAt 16:=⟨rfl,by intro env;rfl,by decide +kernel,by kernel_rfl,by kernel_rfl,by kernel_rfl,by decide +kernel⟩
theorem plain18:PlainAt 18:=⟨rfl,by intro env;rfl,by decide +kernel,by kernel_rfl,by kernel_rfl,by kernel_rfl,by decide +kernel⟩
theorem plain20:PlainAt 20:=⟨rfl,by intro env;rfl,by decide +kernel,by kernel_rfl,by kernel_rfl,by kernel_rfl,by decide +kernel⟩
theorem plain22:PlainAt 22:=⟨rfl,by intro env;rfl,by decide +kernel,by kernel_rfl,by kernel_rfl,by kernel_rfl,by decide +kernel⟩
theorem plain23:PlainAt 23:=⟨rfl,by intro env;rfl,by decide +kernel,by kernel_rfl,by kernel_rfl,by kernel_rfl,by decide +kernel⟩
theorem plain24:PlainAt 24:=⟨rfl,by intro env;rfl,by decide +kernel,by kernel_rfl,by kernel_rfl,by kernel_rfl,by decide +kernel⟩
theorem plain25:PlainAt 25:=⟨rfl,by intro env;rfl,by decide +kernel,by kernel_rfl,by kernel_rfl,by kernel_rfl,by decide +kernel⟩
theorem plain26:PlainAt 26:=⟨rfl,by intro env;rfl,by decide +kernel,by kernel_rfl,by kernel_rfl,by kernel_rfl,by decide +kernel⟩
theorem plain27:PlainAt 27:=⟨rfl,by intro env;rfl,by decide +kernel,by kernel_rfl,by kernel_rfl,by kernel_rfl,by decide +kernel⟩
theorem plain28:PlainAt 28:=⟨rfl,by intro env;rfl,by decide +kernel,by kernel_rfl,by kernel_rfl,by kernel_rfl,by decide +kernel⟩
theorem plain29:PlainAt 29:=⟨rfl,by intro env;rfl,by decide +kernel,by kernel_rfl,by kernel_rfl,by kernel_rfl,by decide +kernel⟩
theorem plain30:PlainAt 30:=⟨rfl,by intro env;rfl,by decide +kernel,by kernel_rfl,by kernel_rfl,by kernel_rfl,by decide +kernel⟩
theorem plain31:PlainAt 31:=⟨rfl,by intro env;rfl,by decide +kernel,by kernel_rfl,by kernel_rfl,by kernel_rfl,by decide +kernel⟩
theorem plain32:PlainAt 32:=⟨rfl,by intro env;rfl,by decide +kernel,by kernel_rfl,by kernel_rfl,by kernel_rfl,by decide +kernel⟩
theorem plain33:PlainAt 33:=⟨rfl,by intro env;rfl,by decide +kernel,by kernel_rfl,by kernel_rfl,by kernel_rfl,by decide +kernel⟩
theorem plain34:PlainAt 34:=⟨rfl,by intro env;rfl,by decide +kernel,by kernel_rfl,by kernel_rfl,by kernel_rfl,by decide +kernel⟩
theorem plain35:PlainAt 35:=⟨rfl,by intro env;rfl,by decide +kernel,by kernel_rfl,by kernel_rfl,by kernel_rfl,by decide +kernel⟩
theorem plain36:PlainAt 36:=⟨rfl,by intro env;rfl,by decide +kernel,by kernel_rfl,by kernel_rfl,by kernel_rfl,by decide +kernel⟩
theorem plain37:PlainAt 37:=⟨rfl,by intro env;rfl,by decide +kernel,by kernel_rfl,by kernel_rfl,by kernel_rfl,by decide +kernel⟩
theorem plain38:PlainAt 38:=⟨rfl,by intro env;rfl,by decide +kernel,by kernel_rfl,by kernel_rfl,by kernel_rfl,by decide +kernel⟩
theorem TopS.fn {i:Nat} {s:Shared} {Q:Flow→Shared→Prop} (P:PlainAt i) (T:TopS w base mg0 fs ss dd nm pl mg l s.heap) (hn:fName (stAt i)∉nm) (hp:((fPos (stAt i)).line,(fPos (stAt i)).col)∉pl)
  (h:∀ mg' l' h' tk,TopS w base mg0 (fs++[i]) ss dd (nm++[fName (stAt i)]) (pl++[((fPos (stAt i)).line,(fPos (stAt i)).col)]) mg' l' h'→Q .next { s with heap:=h',toks:=tk }) :
  wpAny (model prog w) A (exec (stAt i) env0) Q E s:=by
 refine xAAAA P fun e tree fr doc r'1=>?_;refine xAA r'1 fun loc qn nb=>?_
 have fr:∀ x∈(fScope (stAt i)).names,x.2≠.free:=fun x hx e=>by
  have:=List.all_eq_true.mp fr x hx
  rw [e] at this
  exact Bool.noConfusion this
 rw [e]
 refine wpAny_plainDefN (c:=31) (Pl:=30) (F:=32) tree fr doc loc qn T.main (fun a c' h' tk ha hm ho hc hP k=>?_) nb rfl (by
  rw [List.toList_toArray]
  refine codeAmong_triples _ _ fun q hq hh=>hp ?_
  rw [← T.poss]
  exact List.mem_map.mpr ⟨q,hq,Prod.ext hh.1 hh.2⟩)
 refine xEAA hP fun P' lP hi1 ht1=>?_
 have e2:(triples (l++[(fPos (stAt i),c')])).toArray=(triples l).toArray++#[rawInt (fPos (stAt i)).line,rawInt (fPos (stAt i)).col,.ref c']:=by rw [triples_append];simp
 have z:s.heap.objs.size≤h'.objs.size:=Nat.le_trans ha (Nat.le_of_lt (Heap.lt_size ho))
 have T':=T.bind (v:=.ref a) (l':=l++[(fPos (stAt i),c')]) hn (by rw [e2];exact hm) (by rw [List.map_append,T.poss]) k z
 refine h _ _ h' tk ⟨T'.main,T'.keep,T'.size,T'.poss,fun j hj=>?_,T'.sets,T'.dict,T'.other,T'.big⟩
 rcases List.mem_append.mp hj with hj | hj
 ·exact T'.fns j hj
 ·obtain rfl:=List.mem_singleton.mp hj
  exact ⟨List.mem_append_right _ (.head _),a,c',P',_,if_pos rfl,Nat.le_trans T.size ha,Nat.le_trans T.size hc.1,Nat.le_trans T.size lP,ho,hc.2,hi1,ht1⟩
noncomputable def aName:Stmt→Str
 | .Assign [.Name n _] _ _=>n
 | _=>""
noncomputable def aPos:Stmt→Pos
 | .Assign [.Name _ p] _ _=>p
 | _=>default
noncomputable def aEnd:Stmt→Pos
 | .Assign _ _ p=>p
 | _=>default
noncomputable def BindAt (i:Nat):Prop:=stAt i=.Assign [.Name (aName (stAt i)) (aPos (stAt i))] (topV (stAt i)) (aEnd (stAt i))∧swapsWith (topV (stAt i)) (some (.Name (aName (stAt i)) (aPos (stAt i)))) (aEnd (stAt i)).line env0=pure false∧env0.kindOf (aName (stAt i))=some .local∧aName (stAt i)≠"__builtins__"
theorem bind8:BindAt 8:=⟨rfl,rfl,by kernel_rfl,by decide +kernel⟩
theorem bind10:BindAt 10:=⟨rfl,rfl,by kernel_rfl,by decide +kernel⟩
theorem bind13:BindAt 13:=⟨rfl,rfl,by kernel_rfl,by decide +kernel⟩
theorem bind15:BindAt 15:=⟨rfl,rfl,by kernel_rfl,by decide +kernel⟩
theorem bind17:BindAt 17:=⟨rfl,rfl,by kernel_rfl,by decide +kernel⟩
theorem bind19:BindAt 19:=⟨rfl,rfl,by kernel_rfl,by decide +kernel⟩
theorem bind21:BindAt 21:=⟨rfl,rfl,by kernel_rfl,by decide +kernel⟩
structure TopN (mg0:Str→Option Value) (base:Heap):Prop where
 g:mg0 "set"=none∧mg0 "list"=none∧mg0 "range"=none
 b:∃ mb,base.Ns builtinsNs mb∧mb "set"=some (.type "set")∧mb "list"=some (.type "list")∧mb "range"=some (.type "range")
theorem TopS.topB {h:Heap} (T:TopS w base mg0 fs ss dd nm pl mg l h) (N:TopN mg0 base) (h1:("set":Str)∉nm) (h2:("list":Str)∉nm) (h3:("range":Str)∉nm):TopB h:=by
 refine ⟨⟨mg,T.main.g,(T.other _ h1).trans N.g.1,(T.other _ h2).trans N.g.2.1,(T.other _ h3).trans N.g.2.2⟩,?_⟩
 refine xEA N.b fun mb z'1 hb=>?_;refine xEEEA z'1 fun o es ep e q=>?_
 exact ⟨mb,⟨o,es,ep,T.keep _ _ (by decide) (by decide) e,q⟩,hb⟩
theorem TopS.set {i:Nat} {ns:List Int} {s:Shared} {Q:Flow→Shared→Prop} (P:BindAt i) (ev:EvS w (topV (stAt i)) ns) (hh:A.handled=none) (T:TopS w base mg0 fs ss dd nm pl mg l s.heap) (N:TopN mg0 base) (hn:aName (stAt i)∉nm) (h1:("set":Str)∉nm) (h2:("list":Str)∉nm) (h3:("range":Str)∉nm)
  (h:∀ mg' h' tk,TopS w base mg0 fs (ss++[(aName (stAt i),ns)]) dd (nm++[aName (stAt i)]) pl mg' l h'→Q .next { s with heap:=h',toks:=tk }):wpAny (model prog w) A (exec (stAt i) env0) Q E s:=by
 refine xAAA P fun e sw kd nb=>?_
 rw [e]
 refine wpAny_Assign_Name (ev A E s _ hh (T.topB N h1 h2 h3) fun a n h₁ tk k H z=>?_) sw
 have zz:s.heap.objs.size≤h₁.objs.size:=by refine xEEEEA H fun _ _ _ _ e _=>?_;exact Nat.le_trans z (Nat.le_of_lt (Heap.lt_size e))
 refine T.store (s:={ s with heap:=h₁,toks:=tk }) hn nb kd k zz fun h' T' k'=>?_
 refine h _ h' _ ⟨T'.main,T'.keep,T'.size,T'.poss,T'.fns,fun x hx=>?_,T'.dict,T'.other,T'.big⟩
 rcases List.mem_append.mp hx with hx | hx
 ·exact T'.sets x hx
 ·obtain rfl:=List.mem_singleton.mp hx
  have la:=Nat.le_trans T.size z
  exact ⟨List.mem_append_right _ (.head _),a,n,if_pos rfl,la,SetOf.at H fun o=>k' _ o (T.off la).2⟩
theorem TopS.dic {i:Nat} {ks:List (Option Expr)} {vs:List Expr} {pos:Pos} {s:Shared} {Q:Flow→Shared→Prop} (P:BindAt i) (e3:topV (stAt i)=.Dict ks vs pos) (hl:DLit ks vs b3L) (n10:aName (stAt i)="b3_exceptions") (T:TopS w base mg0 fs ss false nm pl mg l s.heap) (hn:aName (stAt i)∉nm)
  (h:∀ mg' h' tk,TopS w base mg0 fs ss true (nm++[aName (stAt i)]) pl mg' l h'→Q .next { s with heap:=h',toks:=tk }):wpAny (model prog w) A (exec (stAt i) env0) Q E s:=by
 refine xAAA P fun e sw kd nb=>?_
 rw [e]
 refine wpAny_Assign_Name ?_ sw
 rw [e3]
 refine ev_dict hl b3_asc b3_ne b3_len (Nat.lt_of_lt_of_le (Nat.lt_trans (by decide) T.big) T.size) fun d h₁ tk H k z=>?_
 have zz:s.heap.objs.size≤h₁.objs.size:=by refine xEEA H fun _ _ e _=>?_;exact Nat.le_trans z (Nat.le_of_lt (Heap.lt_size e))
 refine T.store (s:={ s with heap:=h₁,toks:=tk }) hn nb kd k zz fun h' T' k'=>?_
 refine h _ h' _ ⟨T'.main,T'.keep,T'.size,T'.poss,T'.fns,T'.sets,fun _=>?_,T'.other,T'.big⟩
 have la:=Nat.le_trans T.size z
 refine xEEA H fun es ep hg hl=>?_
 refine ⟨by rw [n10];exact List.mem_append_right _ (.head _),d,?_,la,es,ep,k' _ _ (T.off la).2 hg,hl⟩
 show (if _=aName (stAt i) then _ else _)=_
 rw [n10];exact if_pos rfl
theorem TopS.name {i k:Nat} {x:Str} {p:Pos} {s:Shared} {Q:Flow→Shared→Prop} (P:BindAt i) (e3:topV (stAt i)=.Constant (.str x) k p) (T:TopS w base mg0 fs ss dd nm pl mg l s.heap) (hn:aName (stAt i)∉nm)
  (h:∀ mg' h' tk,TopS w base mg0 fs ss dd (nm++[aName (stAt i)]) pl mg' l h'→Q .next { s with heap:=h',toks:=tk }):wpAny (model prog w) A (exec (stAt i) env0) Q E s:=by
 refine xAAA P fun e sw kd nb=>?_
 rw [e]
 refine wpAny_Assign_Name ?_ sw
 rw [e3]
 refine Constant_str (k:=k) (pos:=p) (env:=env0) ?_
 refine T.store (s:={ s with toks:=s.toks + 1 }) hn nb kd (fun _ _ e=>e) (Nat.le_refl _) fun h' T' k'=>?_
 exact h _ h' _ T'
end Mine
namespace Mine
open PySem PySem.W PySem.Calls PyProof.Rows
variable {w : World} {A : Around} {E : Value → Shared → Prop}
noncomputable def S0 (w:World):Shared:=(topOk w).choose
noncomputable def SK (w:World):Shared:=(topOk w).choose_spec.choose
theorem top_ok (w:World):TopOk w (S0 w) (SK w):=(topOk w).choose_spec.choose_spec
noncomputable abbrev HK (w:World):Heap:=(SK w).heap
noncomputable abbrev mgK (w:World):Str→Option Value:=(HK w).nsMap mainGlobals
structure HK' (w:World) (h0 h:Heap):Prop where
 nsG:h.isNs mainGlobals=true
 nsB:h.isNs builtinsNs=true
 nsC:h.isNs cStatics=true
 statics:staticsOk topMods h0 h=true
 acc:h.accountedOkI topMods=true
 bound:namesBound prog h=true
 laid:laidKept h0 h=true
 g31:h.get? 31=some codeM
 g30:h.get? 30=some { cls:=.none,data:=.fields (triples posK0).toArray }
 g4:h.get? 4=some { cls:=.type "module",dict:=some builtinsNs }
 g104:h.get? 104=some codeF
 g100:h.get? 100=some { cls:=.none,data:=.fields #[] }
 blt:h.nsMap mainGlobals "__builtins__"=some (.ref 4)
 pair:h.nsMap mainGlobals "Pair"=some (.ref 203)
 fdd:h.nsMap mainGlobals "FreezableDefaultDict"=some (.ref 108)
 free:∀ x∈freeNames,h.nsMap mainGlobals x=none
 bset:h.nsMap builtinsNs "set"=some (.type "set")
 blist:h.nsMap builtinsNs "list"=some (.type "list")
 brange:h.nsMap builtinsNs "range"=some (.type "range")
 view:h.bltView=bltViewBooted
 lim:h.nsMap cStatics "sys.recursionlimit"=none
 third:h.nsMap cStatics "thirdparty.any"=none
 frag:(fragK w).In h
theorem hk (w:World):HK' w (S0 w).heap (HK w):=by
 refine xA (Prod.mk.inj (top_ok w).seen) fun a e=>?_
 refine xA (Prod.mk.inj e) fun b e=>?_
 refine xA (Prod.mk.inj e) fun c e=>?_
 refine xA (Prod.mk.inj e) fun d e=>?_
 refine xA (Prod.mk.inj e) fun f e=>?_
 refine xA (Prod.mk.inj e) fun g e=>?_
 refine xA (Prod.mk.inj e) fun i j=>?_
 simp only [Prod.mk.injEq] at a b c f i
 refine xAAAA a fun a1 a2 a3 a4 r'1=>?_;refine xAA r'1 fun a5 a6 a7=>?_
 refine xAAAA b fun b1 b2 b3 b4 b5=>?_
 refine xAA c fun c1 c2 c3=>?_
 refine xAA f fun f1 f2 f3=>?_
 exact ⟨a1,a2,a3,a4,a5,a6,a7,b1,b2,b3,b4,b5,c1,c2,c3,fun x hx=>List.map_inj_left.mp d x hx,f1,f2,f3,g,i.1,i.2,Frag.in_of (as:=(fragK w).map (·.1)) rfl (by rw [List.map_map];exact j)⟩
theorem hk_main (w:World):(HK w).Ns mainGlobals (mgK w):=.of_isNs (hk w).nsG
theorem hk_code (w:World):(HK w).IsCode 31 30 (triples posK0).toArray :=
 ⟨codeM,_,"/claim/cut.py",278,0,0,false,273,0,_,(hk w).g31,rfl,rfl,rfl,rfl,rfl,rfl,(hk w).g30,rfl,by trivial,by decide⟩
theorem hk_bmod (w:World):(HK w).BuiltinsAt (mgK w) 30:=⟨4,_,(hk w).blt,by decide,by decide,by decide,(hk w).g4,rfl,rfl,rfl⟩
theorem hk_size (w:World):(HK w).objs.size=207:=(top_ok w).sizeK
theorem hk_topN (w:World):TopN (mgK w) (HK w):=⟨⟨(hk w).free _ (by decide),(hk w).free _ (by decide),(hk w).free _ (by decide)⟩,_,.of_isNs (hk w).nsB,(hk w).bset,(hk w).blist,(hk w).brange⟩
theorem hk_top (w:World):TopS w (HK w) (mgK w) [] [] false [] [(2,0),(6,0),(24,0),(44,0),(86,0)] (mgK w) posK0 (HK w) where
 main:=⟨hk_main w,hk_code w,by decide,hk_bmod w⟩
 keep:=fun _ _ _ _ e=>e
 size:=Nat.le_refl _
 poss:=rfl
 fns:=nm
 sets:=nm
 dict:=nofun
 other:=fun _ _=>rfl
 big:=by rw [hk_size];decide
theorem hk_code2 (w:World):(HK w).IsCode 104 100 #[]∧(HK w).TableAt 104 100 #[] :=
 ⟨⟨codeF,_,"/claim/cut.py",375,3,0,true,273,0,_,(hk w).g104,rfl,rfl,rfl,rfl,rfl,rfl,(hk w).g100,rfl,trivial,by decide⟩,⟨_,_,(hk w).g104,rfl,rfl,rfl⟩,(hk w).g100⟩
@[irreducible] noncomputable def st10:Stmt:=stAt 10
theorem st10_eq:st10=stAt 10:=by unfold st10;rfl
theorem rest0_eq:rest0=[stAt 8,stAt 9,st10,stAt 11,stAt 12,stAt 13,stAt 14,stAt 15,stAt 16,stAt 17,stAt 18,stAt 19,stAt 20,stAt 21,stAt 22,stAt 23,stAt 24,stAt 25,stAt 26,stAt 27,stAt 28,stAt 29,stAt 30,stAt 31,stAt 32,stAt 33,stAt 34,stAt 35,stAt 36,stAt 37,stAt 38]:=by rw [st10_eq];kernel_rfl
noncomputable abbrev topFs:List Nat:=[9,11,12,14,16,18,20,22,23,24,25,26,27,28,29,30,31,32,33,34,35,36,37,38]
noncomputable abbrev topSs:List (Str × List Int):=[(aName (stAt 8),b1L),(aName (stAt 13),c6L),(aName (stAt 15),c7L),(aName (stAt 17),c8L),(aName (stAt 19),c9L)]
noncomputable abbrev topNm:List Str:=[aName (stAt 8),fName (stAt 9),aName st10,fName (stAt 11),fName (stAt 12),aName (stAt 13),fName (stAt 14),aName (stAt 15),fName (stAt 16),aName (stAt 17),fName (stAt 18),aName (stAt 19),fName (stAt 20),aName (stAt 21),fName (stAt 22),fName (stAt 23),fName (stAt 24),fName (stAt 25),fName (stAt 26),fName (stAt 27),fName (stAt 28),fName (stAt 29),fName (stAt 30),fName (stAt 31),fName (stAt 32),fName (stAt 33),fName (stAt 34),fName (stAt 35),fName (stAt 36),fName (stAt 37),fName (stAt 38)]
noncomputable abbrev topPl:List (Nat × Nat):=[(2,0),(6,0),(24,0),(44,0),(86,0),((fPos (stAt 9)).line,(fPos (stAt 9)).col),((fPos (stAt 11)).line,(fPos (stAt 11)).col),((fPos (stAt 12)).line,(fPos (stAt 12)).col),((fPos (stAt 14)).line,(fPos (stAt 14)).col),((fPos (stAt 16)).line,(fPos (stAt 16)).col),((fPos (stAt 18)).line,(fPos (stAt 18)).col),((fPos (stAt 20)).line,(fPos (stAt 20)).col),((fPos (stAt 22)).line,(fPos (stAt 22)).col),((fPos (stAt 23)).line,(fPos (stAt 23)).col),((fPos (stAt 24)).line,(fPos (stAt 24)).col),((fPos (stAt 25)).line,(fPos (stAt 25)).col),((fPos (stAt 26)).line,(fPos (stAt 26)).col),((fPos (stAt 27)).line,(fPos (stAt 27)).col),((fPos (stAt 28)).line,(fPos (stAt 28)).col),((fPos (stAt 29)).line,(fPos (stAt 29)).col),((fPos (stAt 30)).line,(fPos (stAt 30)).col),((fPos (stAt 31)).line,(fPos (stAt 31)).col),((fPos (stAt 32)).line,(fPos (stAt 32)).col),((fPos (stAt 33)).line,(fPos (stAt 33)).col),((fPos (stAt 34)).line,(fPos (stAt 34)).col),((fPos (stAt 35)).line,(fPos (stAt 35)).col),((fPos (stAt 36)).line,(fPos (stAt 36)).col),((fPos (stAt 37)).line,(fPos (stAt 37)).col),((fPos (stAt 38)).line,(fPos (stAt 38)).col)]
theorem name10:aName st10="b3_exceptions":=by rw [st10_eq];kernel_rfl
theorem text21:topV (stAt 21)=.Constant (.str "law_in0023_01") 0 ⟨120,11,120,26⟩:=by kernel_rfl
theorem TopS.dic10 {base:Heap} {mg0 mg:Str→Option Value} {fs:List Nat} {ss:List (Str × List Int)} {nm:List Str} {pl:List (Nat × Nat)} {l:List (Pos × Addr)} {s:Shared} {Q:Flow→Shared→Prop} (T:TopS w base mg0 fs ss false nm pl mg l s.heap) (hn:aName st10∉nm)
  (h:∀ mg' h' tk,TopS w base mg0 fs ss true (nm++[aName st10]) pl mg' l h'→Q .next { s with heap:=h',toks:=tk }):wpAny (model prog w) A (exec st10 env0) Q E s:=by
 have b:=bind10
 have e:=b3_text
 have hl:=b3_lit
 have n:=name10
 rw [st10_eq] at n hn h ⊢
 revert T hn h
 generalize dKs (topV (stAt 10))=ks at *
 generalize dVs (topV (stAt 10))=vs at *
 generalize dPos (topV (stAt 10))=pos at *
 generalize 10=i at *
 intro T hn h
 exact TopS.dic b e hl n T hn h
theorem top_runs {Q:Flow→Shared→Prop} (hh:A.handled=none) (h:∀ mg' l' h' tk,TopS w (HK w) (mgK w) topFs topSs true topNm topPl mg' l' h'→Q .next { SK w with heap:=h',toks:=tk }):wpAny (model prog w) A (execs rest0 env0) Q E (SK w):=by
 rw [rest0_eq]
 have N:=hk_topN w
 refine wpAny_execs_cons (TopS.set bind8 ev_b1 hh (hk_top w) N (by decide +kernel) (by decide +kernel) (by decide +kernel) (by decide +kernel) fun m8 h8 t8 T8=>?_)
 refine wpAny_execs_cons (TopS.fn plain9 T8 (by decide +kernel) (by decide +kernel) fun m9 l9 h9 t9 T9=>?_)
 refine wpAny_execs_cons (TopS.dic10 T9 (by decide +kernel) fun m10 h10 t10 T10=>?_)
 refine wpAny_execs_cons (TopS.fn plain11 T10 (by decide +kernel) (by decide +kernel) fun m11 l11 h11 t11 T11=>?_)
 refine wpAny_execs_cons (TopS.fn plain12 T11 (by decide +kernel) (by decide +kernel) fun m12 l12 h12 t12 T12=>?_)
 refine wpAny_execs_cons (TopS.set bind13 ev_c6 hh T12 N (by decide +kernel) (by decide +kernel) (by decide +kernel) (by decide +kernel) fun m13 h13 t13 T13=>?_)
 refine wpAny_execs_cons (TopS.fn plain14 T13 (by decide +kernel) (by decide +kernel) fun m14 l14 h14 t14 T14=>?_)
 refine wpAny_execs_cons (TopS.set bind15 ev_c7 hh T14 N (by decide +kernel) (by decide +kernel) (by decide +kernel) (by decide +kernel) fun m15 h15 t15 T15=>?_)
 refine wpAny_execs_cons (TopS.fn plain16 T15 (by decide +kernel) (by decide +kernel) fun m16 l16 h16 t16 T16=>?_)
 refine wpAny_execs_cons (TopS.set bind17 ev_c8 hh T16 N (by decide +kernel) (by decide +kernel) (by decide +kernel) (by decide +kernel) fun m17 h17 t17 T17=>?_)
 refine wpAny_execs_cons (TopS.fn plain18 T17 (by decide +kernel) (by decide +kernel) fun m18 l18 h18 t18 T18=>?_)
 refine wpAny_execs_cons (TopS.set bind19 ev_c9 hh T18 N (by decide +kernel) (by decide +kernel) (by decide +kernel) (by decide +kernel) fun m19 h19 t19 T19=>?_)
 refine wpAny_execs_cons (TopS.fn plain20 T19 (by decide +kernel) (by decide +kernel) fun m20 l20 h20 t20 T20=>?_)
 refine wpAny_execs_cons (TopS.name bind21 text21 T20 (by decide +kernel) fun m21 h21 t21 T21=>?_)
 refine wpAny_execs_cons (TopS.fn plain22 T21 (by decide +kernel) (by decide +kernel) fun m22 l22 h22 t22 T22=>?_)
 refine wpAny_execs_cons (TopS.fn plain23 T22 (by decide +kernel) (by decide +kernel) fun m23 l23 h23 t23 T23=>?_)
 refine wpAny_execs_cons (TopS.fn plain24 T23 (by decide +kernel) (by decide +kernel) fun m24 l24 h24 t24 T24=>?_)
 refine wpAny_execs_cons (TopS.fn plain25 T24 (by decide +kernel) (by decide +kernel) fun m25 l25 h25 t25 T25=>?_)
 refine wpAny_execs_cons (TopS.fn plain26 T25 (by decide +kernel) (by decide +kernel) fun m26 l26 h26 t26 T26=>?_)
 refine wpAny_execs_cons (TopS.fn plain27 T26 (by decide +kernel) (by decide +kernel) fun m27 l27 h27 t27 T27=>?_)
 refine wpAny_execs_cons (TopS.fn plain28 T27 (by decide +kernel) (by decide +kernel) fun m28 l28 h28 t28 T28=>?_)
 refine wpAny_execs_cons (TopS.fn plain29 T28 (by decide +kernel) (by decide +kernel) fun m29 l29 h29 t29 T29=>?_)
 refine wpAny_execs_cons (TopS.fn plain30 T29 (by decide +kernel) (by decide +kernel) fun m30 l30 h30 t30 T30=>?_)
 refine wpAny_execs_cons (TopS.fn plain31 T30 (by decide +kernel) (by decide +kernel) fun m31 l31 h31 t31 T31=>?_)
 refine wpAny_execs_cons (TopS.fn plain32 T31 (by decide +kernel) (by decide +kernel) fun m32 l32 h32 t32 T32=>?_)
 refine wpAny_execs_cons (TopS.fn plain33 T32 (by decide +kernel) (by decide +kernel) fun m33 l33 h33 t33 T33=>?_)
 refine wpAny_execs_cons (TopS.fn plain34 T33 (by decide +kernel) (by decide +kernel) fun m34 l34 h34 t34 T34=>?_)
 refine wpAny_execs_cons (TopS.fn plain35 T34 (by decide +kernel) (by decide +kernel) fun m35 l35 h35 t35 T35=>?_)
 refine wpAny_execs_cons (TopS.fn plain36 T35 (by decide +kernel) (by decide +kernel) fun m36 l36 h36 t36 T36=>?_)
 refine wpAny_execs_cons (TopS.fn plain37 T36 (by decide +kernel) (by decide +kernel) fun m37 l37 h37 t37 T37=>?_)
 refine wpAny_execs_cons (TopS.fn plain38 T37 (by decide +kernel) (by decide +kernel) fun m38 l38 h38 t38 T38=>?_)
 exact wpAny_execs_nil (h _ _ _ _ T38)
end Mine
namespace Mine
open PySem PySem.W PySem.Calls PyProof.Rows
variable {w : World}
noncomputable abbrev TopEnd (w:World) (mg:Str→Option Value) (l:List (Pos × Addr)) (h:Heap):Prop:=TopS w (HK w) (mgK w) topFs topSs true topNm topPl mg l h
section
variable {mg:Str→Option Value} {l:List (Pos × Addr)} {h:Heap} (T:TopEnd w mg l h)
include T
theorem TopEnd.get {b:Addr} {o:Obj} (h1:b≠30) (h2:b≠mainGlobals) (e:(HK w).get? b=some o):h.get? b=some o:=T.keep b o h1 h2 e
theorem TopEnd.ns {b:Addr} {m:Str→Option Value} (h1:b≠30) (h2:b≠mainGlobals) (H:(HK w).Ns b m):h.Ns b m:=by
 refine xEEEA H fun o es ep e q=>?_
 exact ⟨o,es,ep,TopEnd.get T h1 h2 e,q⟩
theorem TopEnd.name {x:Str} {v:Option Value} (hx:x∉topNm) (e:mgK w x=v):mg x=v:=(T.other x hx).trans e
theorem TopEnd.fn {ad:Adr} {i:Nat} {nm:Str} {P:Addr} (hb:ad.hb=h) (hg:ad.mg=mg) (hP:ad.tabR=P) (hPt:h.get? P=some { cls:=.none,data:=.fields #[] }) (hi:i∈topFs) (hn:fName (stAt i)=nm):∃ a,FnAt ad nm i a:=by
 refine xAEEEEAAAAAAA (T.fns i hi) fun _ a c P' pm e1 la lc lP ho hc hi1 ht1=>?_
 rw [hn] at e1 ho hc
 have h100:(100:Nat) < (HK w).objs.size:=by rw [hk_size];decide
 have notT:∀ {b:Addr} {o:Obj},(HK w).objs.size≤b→h.get? b=some o→(o.data≠.fields #[])→b∉ad.tabs:=by
  intro b o lb hb' hd hm
  simp only [Adr.tabs,List.mem_cons,List.not_mem_nil,or_false] at hm
  rcases hm with e | e
  ·rw [hP] at e;rw [e,hPt] at hb';obtain rfl:=Option.some.inj hb';exact hd rfl
  ·rw [e] at lb;exact absurd h100 (Nat.not_lt.mpr lb)
 have hc':=hc
 refine xEEEEAAA hc' fun c₂ o₂ vs t ec gc dc qc=>?_
 cases ec
 refine ⟨a,by rw [hg];exact e1,notT la ho (fun e=>by cases e),_,pm,_,c,by rw [hb];exact ho,rfl,rfl,rfl,notT lc gc (fun e=>by rw [e] at dc;cases dc;trivial),by rw [hb];exact hc⟩
end
theorem frag_tab {a:Addr} (ha:205≤a):(fragK w).lookup a=none:=by
 cases e:(fragK w).lookup a with
 | none=>rfl
 | some o=>
  have:(a,o)∈fragK w:=by
   revert e
   generalize fragK w=K
   induction K with
   | nil=>intro e;exact nsome e
   | cons p K ih =>
    obtain ⟨b,x⟩:=p
    intro e
    rw [List.lookup_cons] at e
    cases hb:a == b with
    | true=>rw [hb] at e;obtain rfl:=Option.some.inj e;rw [eq_of_beq hb];exact .head _
    | false=>rw [hb] at e;exact .tail _ (ih e)
  exact absurd (fragLow w _ this) (Nat.not_lt.mpr ha)
theorem head_gives {mg:Str→Option Value} {l:List (Pos × Addr)} {h:Heap} (T:TopEnd w mg l h):∃ ad:Adr,ad.hb=h∧ad.mg=mg∧Facts w ad∧Globs w ad∧(∀ x∈ad.lams,TabOk h x)∧(∀ a∈ad.tabs,a < h.objs.size∧h.get? a=some { cls:=.none,data:=.fields #[] }):=by
 refine xAEEEEAAAAAAA (T.fns 31 (by decide)) fun _ aR cR PR pmR eR laR lcR lPR hoR hcR hiR htR=>?_
 refine xAEEEEAAAAAAA (T.fns 29 (by decide)) fun _ aN cN PN pmN eN laN lcN lPN hoN hcN hiN htN=>?_
 have z:=hk_size w
 rw [z] at laR lcR lPR laN lcN lPN
 let ad:Adr:=⟨h,mg,cR,PR,aN⟩
 refine xA (hk_code2 w) fun k1 k2=>?_
 have get:=fun {b:Addr} {o:Obj}=>TopEnd.get T (b:=b) (o:=o)
 have k2':h.TableAt 104 100 #[]:=by
  refine xA k2 fun z'1 t=>?_;refine xEEA z'1 fun o vs e r=>?_
  exact ⟨⟨o,vs,get (by decide) (by decide) e,r⟩,get (by decide) (by decide) t⟩
 have k1':h.IsCode 104 100 #[]:=isCode_at k1 (fun o=>get (by decide) (by decide)) (fun o=>get (by decide) (by decide))
 have notT:∀ {b:Addr},b < 207→b≠100→b∉ad.tabs:=fun hb hn hm=>by
  simp only [Adr.tabs,List.mem_cons,List.not_mem_nil,or_false] at hm
  rcases hm with e | e
  ·exact absurd lPR (Nat.not_le.mpr (by have e:_=PR:=e;rw [← e];exact hb))
  ·exact hn e
 have fn:∀ {i:Nat} {nm:Str},i∈topFs→fName (stAt i)=nm→∃ a,FnAt ad nm i a:=fun hi hn=>TopEnd.fn T rfl rfl rfl htR.2 hi hn
 have nsb:(HK w).Ns builtinsNs ((HK w).nsMap builtinsNs):=.of_isNs (hk w).nsB
 have nsc:(HK w).Ns cStatics ((HK w).nsMap cStatics):=.of_isNs (hk w).nsC
 have node:FnAt ad "_law_node" 29 aN:=by
  refine xE (fn (i:=29) (nm:="_law_node") (by decide) (by kernel_rfl)) fun a ha=>?_
  have e2:mg "_law_node"=some (.ref aN):=by
   have:fName (stAt 29)="_law_node":=by kernel_rfl
   rw [← this];exact eN
  have:=ha.1.symm.trans e2
  cases this
  exact ha
 have nm:∀ {x:Str} {v:Option Value},x∉topNm→mgK w x=v→ad.mg x=v:=fun hx e=>TopEnd.name T hx e
 refine ⟨ad,rfl,rfl,?facts,?globs,?lams,?tabs⟩
 case facts =>
  refine ⟨T.main.g,notT (by decide) (by decide),fun x hx=>⟨_,TopEnd.ns T (by decide) (by decide) nsb,Heap.of_bltView (hk w).nsB (hk w).view x hx⟩,notT (by decide) (by decide),⟨_,TopEnd.ns T (by decide) (by decide) nsc,(hk w).lim⟩,notT (by decide) (by decide),⟨_,TopEnd.ns T (by decide) (by decide) nsc,(hk w).third⟩,
   ⟨node.2.1,_,_,hoN,rfl⟩,?_,fun a o e=>?_,fun a ha=>?_⟩
  ·refine xEEAAAAAA (hk_bmod w) fun bm o h1 h2 h3 h4 h5 h6 r'1=>?_;refine xA r'1 fun h7 h8=>?_
   have hb:bm < 207:=by rw [← hk_size w];exact Heap.lt_size h5
   refine ⟨bm,o,nm (by decide +kernel) h1,h2,get h4 h3 h5,h6,h7,h8,notT hb ?_⟩
   rintro rfl
   rw [k2.2] at h5
   obtain rfl:=Option.some.inj h5
   exact absurd h6 (by decide)
  ·have hm:a < 205:=by
    rcases Nat.lt_or_ge a 205 with q | q
    ·exact q
    ·rw [frag_tab q] at e;exact nsome e
   refine get ?_ ?_ ((hk w).frag a o e)
   ·rintro rfl;exact nsome e
   ·rintro rfl;exact nsome e
  ·simp only [Adr.tabs,List.mem_cons,List.not_mem_nil,or_false] at ha
   rcases ha with rfl | rfl
   ·exact frag_tab (Nat.le_trans (by decide) lPR)
   ·rfl
 case lams =>
  intro x hx
  simp only [Adr.lams,List.mem_cons,List.not_mem_nil,or_false] at hx
  rcases hx with rfl | rfl
  ·exact ⟨#[],hiR,htR,.inl rfl⟩
  ·exact ⟨#[],k1',k2',.inl rfl⟩
 case tabs =>
  intro a ha
  simp only [Adr.tabs,List.mem_cons,List.not_mem_nil,or_false] at ha
  rcases ha with rfl | rfl
  ·exact ⟨Heap.lt_size htR.2,htR.2⟩
  ·exact ⟨Heap.lt_size k2'.2,k2'.2⟩
 case globs =>
  have setT:∀ {n:Str} {ns:List Int} {m:Str},(n,ns)∈topSs→n=m→SetTop w ad m (inL ns):=fun hm e=>by
   refine xAEEAA (T.sets _ hm) fun _ a k e1 la H=>?_
   rw [z] at la
   subst e
   refine ⟨a,k,e1,fun hm=>?_,H⟩
   refine xEEEEA H fun o es ep t e r'1=>?_;refine xA r'1 fun z'2 _=>?_;refine xA z'2 fun hc _=>?_
   simp only [Adr.tabs,List.mem_cons,List.not_mem_nil,or_false] at hm
   rcases hm with q | q
   ·rw [q,htR.2] at e;cases e;exact absurd hc (by decide)
   ·rw [q,k2'.2] at e;cases e;exact absurd hc (by decide)
  have fr:∀ {x:Str},x∉topNm→x∈freeNames→ad.mg x=none:=fun hx hf=>nm hx ((hk w).free _ hf)
  refine {
       plain:=⟨fr (by decide +kernel) (by decide),fr (by decide +kernel) (by decide),fr (by decide +kernel) (by decide)⟩,hide:=⟨fr (by decide +kernel) (by decide),fr (by decide +kernel) (by decide)⟩,
       len:=fr (by decide +kernel) (by decide),chr:=fr (by decide +kernel) (by decide),ord:=fr (by decide +kernel) (by decide),range:=fr (by decide +kernel) (by decide),map:=fr (by decide +kernel) (by decide),str:=fr (by decide +kernel) (by decide),tyerr:=fr (by decide +kernel) (by decide),
       pair:=nm (by decide +kernel) (hk w).pair,fdd:=nm (by decide +kernel) (hk w).fdd,
       node:=node,tab:=fun e=>absurd (show 207≤PR from lPR) (by rw [show PR=100 from e];decide),
       b1:=fn (i:=9) (by decide) (by kernel_rfl),
       b3:=fn (i:=11) (by decide) (by kernel_rfl),
       c4:=fn (i:=12) (by decide) (by kernel_rfl),
       c6:=fn (i:=14) (by decide) (by kernel_rfl),
       c7:=fn (i:=16) (by decide) (by kernel_rfl),
       c8:=fn (i:=18) (by decide) (by kernel_rfl),
       c9:=fn (i:=20) (by decide) (by kernel_rfl),
       spellings:=fn (i:=22) (by decide) (by kernel_rfl),
       field:=fn (i:=23) (by decide) (by kernel_rfl),
       row:=fn (i:=24) (by decide) (by kernel_rfl),
       prepared:=fn (i:=25) (by decide) (by kernel_rfl),
       parsed:=fn (i:=26) (by decide) (by kernel_rfl),
       peeled:=fn (i:=27) (by decide) (by kernel_rfl),
       forbidden:=fn (i:=28) (by decide) (by kernel_rfl),
       down:=fn (i:=30) (by decide) (by kernel_rfl),
       told:=fn (i:=32) (by decide) (by kernel_rfl),
       frozen:=fn (i:=33) (by decide) (by kernel_rfl),
       due:=fn (i:=34) (by decide) (by kernel_rfl),
       heads:=fn (i:=35) (by decide) (by kernel_rfl),
       refused:=fn (i:=36) (by decide) (by kernel_rfl),
       lost:=fn (i:=37) (by decide) (by kernel_rfl),
       law:=fn (i:=38) (by decide) (by kernel_rfl),
       read:=?read,sb1:=setT (.head _) (by kernel_rfl),sc6:=setT (.tail _ (.head _)) (by kernel_rfl),sc7:=setT (.tail _ (.tail _ (.head _))) (by kernel_rfl),sc8:=setT (.tail _ (.tail _ (.tail _ (.head _)))) (by kernel_rfl),sc9:=setT (.tail _ (.tail _ (.tail _ (.tail _ (.head _))))) (by kernel_rfl),db3:=?db3 }
  case read =>
   have n31:fName (stAt 31)="_law_read":=by kernel_rfl
   refine xE (fn (i:=31) (nm:="_law_read") (by decide) n31) fun a ha=>?_
   rw [n31] at eR hoR
   have:=ha.1.symm.trans eR
   cases this
   exact ⟨aR,ha,_,pmR,hoR,rfl⟩
  case db3 =>
   refine xAEA (T.dict rfl) fun _ a e1 r'1=>?_;refine xA r'1 fun la H=>?_
   rw [z] at la
   refine xEA (dof_map (w:=w) H) fun f hf hl=>?_
   refine ⟨a,f,e1,fun hm=>?_,beq_eq_false_iff_ne.mpr fun e=>?_,hf,hl⟩
   ·refine xEEA H fun es ep e _=>?_
    simp only [Adr.tabs,List.mem_cons,List.not_mem_nil,or_false] at hm
    rcases hm with q | q
    ·rw [q,htR.2] at e;cases e
    ·rw [q,k2'.2] at e;cases e
   ·rw [e] at la;exact absurd la (by decide)
theorem nm_bound:∀ x∈topNm,x∈prog.boundNames:=by
 have:topNm.all (fun x=>prog.boundNames.contains x)=true:=by decide +kernel
 exact fun x hx=>List.contains_iff_mem.mp (List.all_eq_true.mp this x hx)
theorem laid_nm:∀ x∈laidNames,x∉topNm:=by
 have:laidNames.all (fun x=>!topNm.contains x)=true:=by decide +kernel
 intro x hx hm
 have h1:=List.all_eq_true.mp this x hx
 rw [List.contains_iff_mem.mpr hm] at h1
 exact Bool.noConfusion h1
noncomputable def Left (w:World) (s:Shared):Prop:=(∃ mg l,TopEnd w mg l s.heap)∧s.os=os0∧s.gens=#[]
theorem top_ran (w:World) (hz:(S0 w).asleep):∃ s₁,TopRan prog w (S0 w) s₁∧Left w s₁:=by
 have H:=top_ok w
 obtain ⟨m,t,s₁,hs,ht,hl,hO,⟨mg,l,T⟩,ho,hg⟩:GoesOn w (Left w) (S0 w) (topStub prog):=by
  refine H.go _ hz fun hz'=>GoesOn.wp hz' ?_
  refine top_runs (topA_handled _) fun mg l h' tk T=>⟨rfl,by show leftWithCleanup (SK w).gens=false;rw [H.gensK];simp [leftWithCleanup],fun b o h1 h2 _ _ e=>T.keep b o (Nat.ne_of_lt (Nat.lt_of_lt_of_le h1 (by decide))) h2 e,fun s'' e1 e2 e3=>⟨⟨mg,l,by rw [e1];exact T⟩,e2.trans H.osK,Array.eq_empty_of_size_eq_zero (e3.trans (by show (SK w).gens.size=0;rw [H.gensK];rfl))⟩⟩
 have hC:s₁.heap.get? cStatics=(HK w).get? cStatics:=by
  cases e:(HK w).get? cStatics with
  | none=>have:=(hk w).nsC;unfold Heap.isNs at this;rw [e] at this;exact ft this
  | some o=>exact T.keep _ _ (by decide) (by decide) e
 have hB:s₁.heap.get? builtinsNs=(HK w).get? builtinsNs:=by
  cases e:(HK w).get? builtinsNs with
  | none=>have:=(hk w).nsB;unfold Heap.isNs at this;rw [e] at this;exact ft this
  | some o=>exact T.keep _ _ (by decide) (by decide) e
 have st:staticOf s₁.heap=staticOf (HK w):=by funext k;unfold staticOf;rw [hC]
 have bt:builtinOf s₁.heap=builtinOf (HK w):=by funext k;unfold builtinOf;rw [hB]
 have gl:∀ x,globalOf s₁.heap x=mg x:=fun x=>PySem.Claim2Try.globalOf_of_ns T.main.g x
 have glK:∀ x,globalOf (HK w) x=mgK w x:=fun x=>PySem.Claim2Try.globalOf_of_ns (hk_main w) x
 refine ⟨s₁,⟨⟨m,t,hs,ht⟩,hl,Shared.rest_eq (ho.trans H.osa.symm),fun b o e hn=>?_,?_,?_,Pin.keysAreStrs_of_ns T.main.g,?_,?_,?_,fun x v e=>?_,fun x hx=>?_⟩,⟨mg,l,T⟩,ho,hg⟩
 ·have h1:b≠mainNs:=fun q=>hn (.inl q)
  have h2:b≠cStatics:=fun q=>hn (.inr (.inl q))
  have h3:b≠6:=fun q=>hn (.inr (.inr (by rw [Pin.globalOf_eq H.ns0,q];exact H.ann)))
  exact hO b o (by rw [← H.size0];exact Heap.lt_size e) h1 h2 h3 e
 ·have:=Heap.accountedI_of_ok (hk w).acc
  unfold staticsAccountedI at this ⊢
  rw [st];exact this
 ·have:=statics_of_ok (hk w).statics
  unfold staticsBehindTheTop at this ⊢
  rw [st];exact this
 ·unfold builtinsAsBooted
  rw [bt]
  exact fun x hx=>(Pin.builtinOf_eq (hk w).nsB x).trans (Heap.of_bltView (hk w).nsB (hk w).view x hx)
 ·refine xEEAAAAAA T.main.bmod fun bm o h1 h2 h3 h4 h5 h6 r'1=>?_;refine xA r'1 fun h7 _=>?_
  exact ⟨bm,o,(gl _).trans h1,h5,h6,h7⟩
 ·intro g hgm
  rw [hg] at hgm
  simp at hgm
 ·by_cases hx:x∈topNm
  ·exact .inr (nm_bound x hx)
  ·refine names_of_bound (hk w).bound x v ?_
   rw [glK,← T.other x hx,← gl];exact e
 ·rw [gl,T.other x (laid_nm x hx),← glK]
  exact laid_of_kept (hk w).laid x hx
theorem TopS.keeps {base:Heap} {mg0 mg:Str→Option Value} {fs:List Nat} {ss:List (Str × List Int)} {dd:Bool} {nm:List Str} {pl:List (Nat × Nat)} {l:List (Pos × Addr)} {h h':Heap} (T:TopS w base mg0 fs ss dd nm pl mg l h) (k:∀ b o,h.get? b=some o→h'.get? b=some o) (z:h.objs.size≤h'.objs.size):TopS w base mg0 fs ss dd nm pl mg l h':=by
 have M:=T.main
 refine xEEAAA M.bmod fun bm o a1 a2 a3 r'1=>?_;refine xAA r'1 fun a4 a5 a6=>?_
 refine ⟨⟨M.g.keeps k,M.code.keeps k,M.low,⟨bm,o,a1,a2,a3,a4,k _ _ a5,a6⟩⟩,fun b o h1 h2 e=>k b o (T.keep b o h1 h2 e),Nat.le_trans T.size z,T.poss,fun i hi=>?_,fun x hx=>?_,fun hd=>?_,T.other,T.big⟩
 ·refine xAEEEEAAAAAAA (T.fns i hi) fun h1 a c P pm e1 la lc lP ho hc hi1 ht1=>?_
  exact ⟨h1,a,c,P,pm,e1,la,lc,lP,k _ _ ho,hc.keeps k,hi1.keeps k,ht1.keeps k⟩
 ·refine xAEEAA (T.sets x hx) fun h1 a m e1 la H=>?_
  exact ⟨h1,a,m,e1,la,SetOf.at H fun o=>k _ o⟩
 ·obtain ⟨h1,a,e1,la,es,ep,hg,H⟩:=T.dict hd
  exact ⟨h1,a,e1,la,es,ep,k _ _ hg,H⟩
theorem lay_ints {R:WRecords} {cl:Str→Option Addr} {P:Params} {ord:List DictEntry→List DictEntry}:∀ (script:List Int) (s:Shared),∃ vs tk,layAllW R cl P ord (script.map WData.int) s=some (vs,{ s with toks:=tk })∧All2 (fun i (mv:Value)=>∃ t,mv=.int i t) script vs
 | [],s=>⟨[],s.toks,by rfl,.nil⟩
 | i :: script,s=>by
  obtain ⟨vs,tk,e,h⟩:=lay_ints script { s with toks:=s.toks + 1 }
  refine ⟨.int i s.toks :: vs,tk,?_,.cons ⟨_,rfl⟩ h⟩
  rw [List.map_cons]
  simp only [layAllW,layW]
  rw [e]
theorem lay_script {R:WRecords} {cl:Str→Option Addr} {P:Params} {ord:List DictEntry→List DictEntry} (script:List Int) (s:Shared):∃ vs tk,layAllW R cl P ord [.list (script.map WData.int)] s=some ([.ref s.heap.objs.size],{ s with heap:=s.heap.push (listOf vs.toArray 0),toks:=tk })∧All2 (fun i (mv:Value)=>∃ t,mv=.int i t) script vs:=by
 refine xEEA (lay_ints (R:=R) (cl:=cl) (P:=P) (ord:=ord) script s) fun vs tk e h=>?_
 refine ⟨vs,tk,?_,h⟩
 simp only [layAllW,layW]
 rw [e]
noncomputable abbrev lawC:ClaimW:=PySem.Challenge.rw_in0023_01.row.toRowW.claim
theorem items_ints {R:WRecords}:∀ {xs:List WData},WShape.hasItems R xs .int=true→∃ ns:List Int,xs=ns.map WData.int
 | [],_=>⟨[],rfl⟩
 | x :: xs,h=>by
  refine xA (Bool.and_eq_true_iff.mp h) fun h1 h2=>?_
  refine xE (items_ints h2) fun ns q'1=>?_;subst q'1
  cases x <;> first | exact ft h1 | exact ⟨_ :: ns,rfl⟩
theorem script_of {args:List WData} (h:lawC.pre args=true):∃ script:List Int,args=[.list (script.map WData.int)]∧script.length≤63:=by
 refine xA (pre_splitW h) fun h1 h2=>?_
 refine xEEA (hasAllW_cons h1) fun d r q'1 r'2=>?_;subst q'1;refine xA r'2 fun ha hr=>?_
 have:r=[]:=by
  cases r with
  | nil=>rfl
  | cons=>exact ft hr
 subst this
 refine xEA (hasW_list ha) fun xs q'1 hi=>?_;subst q'1
 refine xE (items_ints hi) fun ns q'1=>?_;subst q'1
 refine ⟨ns,rfl,?_⟩
 have h3:WTm.holds [] (.and (.not (.lt (.lit (.int 63)) (.len (.arg 0)))) (.lit (.bool true))) { args:=[.list (ns.map WData.int)] }=true:=h2
 refine Nat.le_of_not_lt fun hlt=>?_
 simp [WTm.holds,WTm.value,less?,Num.less?] at h3
 rw [decide_eq_true (show (63:Int) < ns.length by exact Int.ofNat_lt.mpr ‹_›)] at h3
 exact ft h3
theorem law_def (w:World) {mg:Str→Option Value} {l:List (Pos × Addr)} {h:Heap} (T:TopEnd w mg l h):isTheDefsW prog h "law":=by
 refine xAEEEEAAAAAAA (T.fns 38 (by decide)) fun _ a c P pm e1 la lc lP ho hc hi1 ht1=>?_
 have n38:fName (stAt 38)="law":=by kernel_rfl
 rw [n38] at e1 ho
 refine ⟨a,_,_,fArgs (stAt 38),fBody (stAt 38),fScope (stAt 38),(PySem.Claim2Try.globalOf_of_ns T.main.g _).trans e1,ho,rfl,by kernel_rfl,rfl,rfl,rfl,rfl,rfl,rfl,rfl,rfl,.inl ⟨by kernel_rfl,rfl⟩,[],by kernel_rfl,.inl ⟨rfl,rfl⟩⟩
theorem callFrom_of {c:ClaimW} {stub:List Value→Thread} {w:World} {s:Shared} {free:Addr→Prop} {gens:Prop} {kept:Heap→Prop} (hg:s.gens=#[]) (hk:∀ h,kept h)
  (h:∀ args,c.pre args=true→WData.layableAll args=true→∀ ord:List DictEntry→List DictEntry,(∀ l,(ord l).Perm l)→∃ vs s₁,layAllW c.records (classAt s.heap) w.params ord args s=some (vs,s₁) ∧
   ∃ n r s',schedN (denote table) c.prog w n (.single s₁ (stub vs))=.halted (outcomeOf r) s'∧c.Ends s args vs s₁ r s'∧s'.os=s.os∧s'.heap.life=s.heap.life):c.CallFrom stub w free gens kept s:=by
 intro args hpre hlay ord hord
 refine xEEA (h args hpre hlay ord hord) fun vs s₁ hlaid r'1=>?_;refine xEEEAAA r'1 fun n r s' hsched hends hos hlife=>?_
 refine ⟨vs,s₁,hlaid,n,_,s',hsched,?_,fun _ i x hx=>?_,hk _,by rw [hlife],Shared.rest_eq hos⟩
 ·rcases hends with ⟨v,rfl,d1,d2,d3,d4,d5⟩ | ⟨e,ob,cls,rfl,d1,d2,d3,d4,d5⟩
  ·exact .inl ⟨v,rfl,d1,d2,d3,fun b o y _=>d4 b o y,d5⟩
  ·exact .inr ⟨e,ob,cls,rfl,d1,d2,d3,d4,fun b o y _=>d5 b o y⟩
 ·rw [hg] at hx
  trivial
theorem law_call (w:World) {s:Shared} {mg:Str→Option Value} {l:List (Pos × Addr)} (T:TopEnd w mg l s.heap) (hz:s.asleep) (hg:s.gens=#[]) {free:Addr→Prop} {gens:Prop} {kept:Heap→Prop} (hk:∀ h,kept h):lawC.CallFrom (callStub "law") w free gens kept s:=by
 refine callFrom_of hg hk fun args hpre hlay ord hord=>?_
 refine xEA (script_of hpre) fun script q'1 hlen=>?_;subst q'1
 refine xEEA (lay_script (R:=lawC.records) (cl:=classAt s.heap) (P:=w.params) (ord:=ord) script s) fun vs tk hlaid hvs=>?_
 have keeps:=layAllW_keeps _ _ _ hlaid
 have hal:=layAllW_rest _ _ _ hlaid
 refine xEAA (reads_layAllW hord _ _ _ hlaid hlay _ (fun _ _ e=>e)) fun as hrd hin hold=>?_
 have L:Laid lawC.records w s _ _ _ as:=⟨⟨ord,hord,hlaid⟩,hrd,hin,hold,keeps,hal.1.trans hg,hal.2.2.1⟩
 have T1:TopEnd w mg l (s.heap.push (listOf vs.toArray 0)):=T.keeps keeps (by rw [Heap.size_push];exact Nat.le_succ _)
 refine xEAAA (head_gives T1) fun ad hb hm F r'1=>?_;refine xAA r'1 fun G lams tabs=>?_
 have hlist:(s.heap.push (listOf vs.toArray 0)).get? s.heap.objs.size=some (listOf vs.toArray 0):=Heap.get?_push_size _ rfl
 have hs:ScriptAt ad s.heap.objs.size script:=by
  refine ⟨fun hm=>?_,vs.toArray,0,hb ▸ hlist,by simpa using hvs⟩
  have e:=(tabs _ hm).2
  rw [hlist] at e
  cases e
 refine xE G.law fun a hf=>?_
 have Z:Sim w ad [] [] (s.heap.push (listOf vs.toArray 0)):=by
  refine ⟨⟨F,by rw [Adr.n0,hb];exact Nat.le_refl _,fun a o _ e=>by rw [← hb];exact e,fun a ha=>?_,lams⟩,rfl,nofun,nofun,nofun⟩
  refine xA (tabs a ha) fun t1 t2=>?_
  exact ⟨by rw [Adr.n0,hb];exact t1,#[],#[],by rw [hb];exact t2,t2⟩
 have HO:HOut ad [] (s.heap.push (listOf vs.toArray 0)) callerA:=⟨[],rfl,fun _ h=>(List.not_mem_nil h).elim⟩
 have hwp:∀ p,Sem.wp (model prog w) callerC (call (.ref a) [.ref s.heap.objs.size] []) (fun v _ s'=>∃ f,Fin.done (.ret v)=.done f∧(GoodWG lawC (classAt s.heap) (ExcName.means s.heap) [.list (script.map WData.int)] { s with heap:=s.heap.push (listOf vs.toArray 0),toks:=tk } (.ok f) s'∧leftWithCleanup s'.gens=false))
   (fun e _ s'=>GoodWG lawC (classAt s.heap) (ExcName.means s.heap) [.list (script.map WData.int)] { s with heap:=s.heap.push (listOf vs.toArray 0),toks:=tk } (.error e) s'∧leftWithCleanup s'.gens=false) p { s with heap:=s.heap.push (listOf vs.toArray 0),toks:=tk }:=fun p=>by
  refine caller_law (s:={ s with heap:=s.heap.push (listOf vs.toArray 0),toks:=tk }) G hf hs (Nat.lt_of_le_of_lt hlen (by decide)) HO Z fun st' mv h' tk' μ' _ _ S' rv=>?_
  cases rv
  have bare:AllBare s.gens:=.of_eq hg
  refine ⟨_,rfl,⟨.inl ⟨.bool true,.bool true,[],rfl,fun _=>rfl,.bool true,?_,fun _=>⟨.nil,nm⟩⟩,⟨fun b o e=>?_,fun b o e=>?_⟩,rfl,bare⟩,leftWithCleanup_false_of_bare bare⟩
  ·kernel_rfl
  ·by_cases hm':b∈ad.tabs
   ·refine xAEEA (S'.base.tabs b hm') fun _ vs' more e0 e1=>?_
    rw [hb] at e0
    obtain rfl:o=_:=Option.some.inj (e.symm.trans e0)
    refine .inr (.inl ⟨?_,rfl,vs',more,rfl,e1⟩)
    simp only [Adr.tabs,List.mem_cons,List.not_mem_nil,or_false] at hm'
    rcases hm' with rfl | rfl
    ·refine xEAA (lams _ (.head _)) fun _ _ ht _=>?_
     exact ht.isCodeTable
    ·refine xEAA (lams _ (.tail _ (.head _))) fun _ _ ht _=>?_
     exact ht.isCodeTable
   ·exact .inl (S'.base.keep b o hm' (by rw [hb];exact e))
  ·by_cases hm':b∈ad.tabs
   ·refine xAEEA (S'.base.tabs b hm') fun _ vs' more _ e1=>?_
    exact ⟨_,e1⟩
   ·exact ⟨o,S'.base.keep b o hm' (by rw [hb];exact e)⟩
 have hfa:mg "law"=some (.ref a):=by rw [← hm];exact hf.1
 refine xEEEEAAA (thread_at (q:=prog) (w:=w) (s:={ s with heap:=s.heap.push (listOf vs.toArray 0),toks:=tk }) (R:=fun r s'=>GoodWG lawC (classAt s.heap) (ExcName.means s.heap) [.list (script.map WData.int)] { s with heap:=s.heap.push (listOf vs.toArray 0),toks:=tk } r s') (Shared.asleep_of_life hal.2.2.2 hz)
  (call_tree T1.main.g hfa hwp)) fun n r s' s'' hsched hrun hfo hcase=>?_
 refine xAA (GoodWG.laid (c:=lawC) rfl rfl (fun _ _=>ident_freeW (r:=PySem.Challenge.rw_in0023_01.row.toRowW) rfl rfl rfl _ _) L hcase) fun hends hos _=>?_
 refine xAAAA (Shared.forget_eq hfo) fun eh _ _ eo _=>?_
 exact ⟨_,_,hlaid,n,r,s',hsched,hends.congr eh,eo.trans hos,(runN_life _ _ _ hrun).trans hal.2.2.2⟩
end Mine
namespace Mine
open PySem PySem.W PySem.Calls PyProof.Rows
theorem law_promised:PySem.Challenge.rw_in0023_01.row.toRowW.promised:=⟨[.list []],by decide +kernel,by decide +kernel⟩
theorem law_openBy (keeps:List Str):lawC.HoldsOpenBy (callStub "law") ["law"] keeps false:=by
 refine ⟨⟨⟨rfl,rfl,rfl,rfl,rfl,by decide +kernel⟩,by decide +kernel,rfl⟩,law_promised.witness,fun w=>?_⟩
 have H:=top_ok w
 refine xEA H.imp fun s A hf=>?_
 refine ⟨⟨s,A⟩,fun s' hs'=>?_⟩
 obtain rfl:s'=s:=AfterImport.unique hs' A
 have hz:(S0 w).asleep:=Shared.asleep_of_life (fence_lifeW hf) A.life
 refine xEAAA (top_ran w hz) fun s₁ hT z'1 _ hg=>?_;refine xEE z'1 fun mg l T=>?_
 refine ⟨_,hf,H.gens0,s₁,hT,fun n hn=>?_,nofun,nofun,law_call w T (Shared.asleep_of_life hT.2.1 hz) hg fun h q=>nomatch q⟩
 rw [List.mem_singleton.mp hn]
 exact law_def w T
theorem looks_said:looksOpen PySem.Challenge.pw_in0023_01=true:=by
 unfold looksOpen
 refine look_both (look_both (look_both (look_both (look_both ?_ ?_) ?_) ?_) ?road) ?names
 case road=>rw [PySem.W.Fast.te8326940854005059898];decide +kernel
 case names=>rw [PySem.W.Fast.te17119622794617984870];decide +kernel
 all_goals decide +kernel
theorem row_said':PySem.Challenge.rw_in0023_01.row.wellSaid=true:=by
 unfold OpenRow.wellSaid OpenRow.partSaid
 refine look_both (look_both (look_both (look_both (look_both (look_both (look_both (look_both (look_both (look_both (look_both (look_both (look_both (look_both (look_both looks_said ?_) ?_) ?_) ?_) ?_) ?_) ?_) ?_) ?_) ?_) ?_) ?_) ?_) ?_) ?_ <;> decide +kernel
theorem law_said:PySem.Challenge.rw_in0023_01.wellSaid=true:=by
 unfold OpenLaw.wellSaid
 refine look_both (look_both (look_both (look_both (look_both (look_both (look_both (look_both (look_both (look_both (look_both (look_both (look_both (look_both (look_both (look_both (look_both (look_both row_said' ?_) ?_) ?_) ?_) ?_) ?_) ?_) ?_) ?_) ?_) ?_) ?_) ?_) ?_) ?_) ?_) ?_) ?_ <;> decide +kernel
end Mine
open PySem PySem.W PyProof.Rows
theorem PySem.Challenge.cw_in0023_01_holds : PySem.Challenge.rw_in0023_01.Holds :=
  holds_law Mine.law_said fun said => ⟨said, Mine.law_promised, Mine.law_openBy _⟩
