import PyProof.Rows.All
import Open.Pieces
import OpenK.AllK
import OpenK.KGet
import OpenK.KMake
import OpenK.KWalk
import OpenK.XGo
import PyProof.AttrMissHeap
import PyProof.DictWalks
import PyProof.LetGo
import PyProof.ListIndexNeg
import PyProof.Rows.RaiseClass
import PyProof.RulesDelMore
import PyProof.SetNew
import PyProof.StationsW
import PyProof.TupleOfGen
import PyProof.TupleOfSeq
import Wide.All
import Wide.FinOn
import Lean
import PySem.Challenge.RW_ox0192_01
set_option maxRecDepth 100000
set_option Elab.async false
noncomputable section
namespace Mine
open PySem
theorem hideG {C : Prop} (h : ∀ D : Prop,(C→D)→D) : C:=h C fun x=>x
@[elab_as_elim]
theorem genA {α : Sort u} {motive : α→Prop} (a : α) (h : ∀ x,motive x) : motive a:=h a
@[elab_as_elim]
theorem genE {α : Sort u} {motive : α→Prop} (a : α) (h : ∀ x,a = x→motive x) : motive a:=h a rfl
theorem hideQE {α : Type} {M : Model} {B : Around} {t : Sem α} {Q : α→Shared→Prop} {E : Value→Shared→Prop} {s : Shared} (h : ∀ (Q' : α→Shared→Prop) (E' : Value→Shared→Prop),(∀ r s',Q r s'→Q' r s')→(∀ e s',E e s'→E' e s')→wpAny M B t Q' E' s) : wpAny M B t Q E s :=
  h Q E (fun _ _ x=>x) fun _ _ x=>x
end Mine
namespace Mine
open PySem
theorem e0a2  {P0 P1 : Prop} {C : Prop} (h : P0∧P1) (g : P0→P1→C) : C:=let ⟨h0,h1⟩:=h; g  h0 h1
theorem e0a3  {P0 P1 P2 : Prop} {C : Prop} (h : P0∧P1∧P2) (g : P0→P1→P2→C) : C:=let ⟨h0,h1,h2⟩:=h; g  h0 h1 h2
theorem e0a4  {P0 P1 P2 P3 : Prop} {C : Prop} (h : P0∧P1∧P2∧P3) (g : P0→P1→P2→P3→C) : C:=let ⟨h0,h1,h2,h3⟩:=h; g  h0 h1 h2 h3
theorem e0a5  {P0 P1 P2 P3 P4 : Prop} {C : Prop} (h : P0∧P1∧P2∧P3∧P4) (g : P0→P1→P2→P3→P4→C) : C:=let ⟨h0,h1,h2,h3,h4⟩:=h; g  h0 h1 h2 h3 h4
theorem e1a1 {α0 : Sort _} {P0 : α0→Prop} {C : Prop} (h : ∃ x0,P0 x0) (g : ∀ x0,P0 x0→C) : C:=let ⟨x0,h0⟩:=h; g x0 h0
theorem e1a2 {α0 : Sort _} {P0 P1 : α0→Prop} {C : Prop} (h : ∃ x0,P0 x0∧P1 x0) (g : ∀ x0,P0 x0→P1 x0→C) : C:=let ⟨x0,h0,h1⟩:=h; g x0 h0 h1
theorem e1a3 {α0 : Sort _} {P0 P1 P2 : α0→Prop} {C : Prop} (h : ∃ x0,P0 x0∧P1 x0∧P2 x0) (g : ∀ x0,P0 x0→P1 x0→P2 x0→C) : C:=let ⟨x0,h0,h1,h2⟩:=h; g x0 h0 h1 h2
theorem e1a4 {α0 : Sort _} {P0 P1 P2 P3 : α0→Prop} {C : Prop} (h : ∃ x0,P0 x0∧P1 x0∧P2 x0∧P3 x0) (g : ∀ x0,P0 x0→P1 x0→P2 x0→P3 x0→C) : C:=let ⟨x0,h0,h1,h2,h3⟩:=h; g x0 h0 h1 h2 h3
theorem e1a5 {α0 : Sort _} {P0 P1 P2 P3 P4 : α0→Prop} {C : Prop} (h : ∃ x0,P0 x0∧P1 x0∧P2 x0∧P3 x0∧P4 x0) (g : ∀ x0,P0 x0→P1 x0→P2 x0→P3 x0→P4 x0→C) : C:=let ⟨x0,h0,h1,h2,h3,h4⟩:=h; g x0 h0 h1 h2 h3 h4
theorem e2a1 {α0 : Sort _} {α1 : Sort _} {P0 : α0→α1→Prop} {C : Prop} (h : ∃ x0 x1,P0 x0 x1) (g : ∀ x0 x1,P0 x0 x1→C) : C:=let ⟨x0,x1,h0⟩:=h; g x0 x1 h0
theorem e2a2 {α0 : Sort _} {α1 : Sort _} {P0 P1 : α0→α1→Prop} {C : Prop} (h : ∃ x0 x1,P0 x0 x1∧P1 x0 x1) (g : ∀ x0 x1,P0 x0 x1→P1 x0 x1→C) : C:=let ⟨x0,x1,h0,h1⟩:=h; g x0 x1 h0 h1
theorem e2a3 {α0 : Sort _} {α1 : Sort _} {P0 P1 P2 : α0→α1→Prop} {C : Prop} (h : ∃ x0 x1,P0 x0 x1∧P1 x0 x1∧P2 x0 x1) (g : ∀ x0 x1,P0 x0 x1→P1 x0 x1→P2 x0 x1→C) : C:=let ⟨x0,x1,h0,h1,h2⟩:=h; g x0 x1 h0 h1 h2
theorem e2a4 {α0 : Sort _} {α1 : Sort _} {P0 P1 P2 P3 : α0→α1→Prop} {C : Prop} (h : ∃ x0 x1,P0 x0 x1∧P1 x0 x1∧P2 x0 x1∧P3 x0 x1) (g : ∀ x0 x1,P0 x0 x1→P1 x0 x1→P2 x0 x1→P3 x0 x1→C) : C:=let ⟨x0,x1,h0,h1,h2,h3⟩:=h; g x0 x1 h0 h1 h2 h3
theorem e2a6 {α0 : Sort _} {α1 : Sort _} {P0 P1 P2 P3 P4 P5 : α0→α1→Prop} {C : Prop} (h : ∃ x0 x1,P0 x0 x1∧P1 x0 x1∧P2 x0 x1∧P3 x0 x1∧P4 x0 x1∧P5 x0 x1) (g : ∀ x0 x1,P0 x0 x1→P1 x0 x1→P2 x0 x1→P3 x0 x1→P4 x0 x1→P5 x0 x1→C) : C:=let ⟨x0,x1,h0,h1,h2,h3,h4,h5⟩:=h; g x0 x1 h0 h1 h2 h3 h4 h5
theorem e3a1 {α0 : Sort _} {α1 : Sort _} {α2 : Sort _} {P0 : α0→α1→α2→Prop} {C : Prop} (h : ∃ x0 x1 x2,P0 x0 x1 x2) (g : ∀ x0 x1 x2,P0 x0 x1 x2→C) : C:=let ⟨x0,x1,x2,h0⟩:=h; g x0 x1 x2 h0
theorem e3a2 {α0 : Sort _} {α1 : Sort _} {α2 : Sort _} {P0 P1 : α0→α1→α2→Prop} {C : Prop} (h : ∃ x0 x1 x2,P0 x0 x1 x2∧P1 x0 x1 x2) (g : ∀ x0 x1 x2,P0 x0 x1 x2→P1 x0 x1 x2→C) : C:=let ⟨x0,x1,x2,h0,h1⟩:=h; g x0 x1 x2 h0 h1
theorem e3a3 {α0 : Sort _} {α1 : Sort _} {α2 : Sort _} {P0 P1 P2 : α0→α1→α2→Prop} {C : Prop} (h : ∃ x0 x1 x2,P0 x0 x1 x2∧P1 x0 x1 x2∧P2 x0 x1 x2) (g : ∀ x0 x1 x2,P0 x0 x1 x2→P1 x0 x1 x2→P2 x0 x1 x2→C) : C:=let ⟨x0,x1,x2,h0,h1,h2⟩:=h; g x0 x1 x2 h0 h1 h2
theorem e3a4 {α0 : Sort _} {α1 : Sort _} {α2 : Sort _} {P0 P1 P2 P3 : α0→α1→α2→Prop} {C : Prop} (h : ∃ x0 x1 x2,P0 x0 x1 x2∧P1 x0 x1 x2∧P2 x0 x1 x2∧P3 x0 x1 x2) (g : ∀ x0 x1 x2,P0 x0 x1 x2→P1 x0 x1 x2→P2 x0 x1 x2→P3 x0 x1 x2→C) : C:=let ⟨x0,x1,x2,h0,h1,h2,h3⟩:=h; g x0 x1 x2 h0 h1 h2 h3
theorem e4a2 {α0 : Sort _} {α1 : Sort _} {α2 : Sort _} {α3 : Sort _} {P0 P1 : α0→α1→α2→α3→Prop} {C : Prop} (h : ∃ x0 x1 x2 x3,P0 x0 x1 x2 x3∧P1 x0 x1 x2 x3) (g : ∀ x0 x1 x2 x3,P0 x0 x1 x2 x3→P1 x0 x1 x2 x3→C) : C:=let ⟨x0,x1,x2,x3,h0,h1⟩:=h; g x0 x1 x2 x3 h0 h1
theorem e4a3 {α0 : Sort _} {α1 : Sort _} {α2 : Sort _} {α3 : Sort _} {P0 P1 P2 : α0→α1→α2→α3→Prop} {C : Prop} (h : ∃ x0 x1 x2 x3,P0 x0 x1 x2 x3∧P1 x0 x1 x2 x3∧P2 x0 x1 x2 x3) (g : ∀ x0 x1 x2 x3,P0 x0 x1 x2 x3→P1 x0 x1 x2 x3→P2 x0 x1 x2 x3→C) : C:=let ⟨x0,x1,x2,x3,h0,h1,h2⟩:=h; g x0 x1 x2 x3 h0 h1 h2
theorem e4a5 {α0 : Sort _} {α1 : Sort _} {α2 : Sort _} {α3 : Sort _} {P0 P1 P2 P3 P4 : α0→α1→α2→α3→Prop} {C : Prop} (h : ∃ x0 x1 x2 x3,P0 x0 x1 x2 x3∧P1 x0 x1 x2 x3∧P2 x0 x1 x2 x3∧P3 x0 x1 x2 x3∧P4 x0 x1 x2 x3) (g : ∀ x0 x1 x2 x3,P0 x0 x1 x2 x3→P1 x0 x1 x2 x3→P2 x0 x1 x2 x3→P3 x0 x1 x2 x3→P4 x0 x1 x2 x3→C) : C:=let ⟨x0,x1,x2,x3,h0,h1,h2,h3,h4⟩:=h; g x0 x1 x2 x3 h0 h1 h2 h3 h4
theorem e5a3 {α0 : Sort _} {α1 : Sort _} {α2 : Sort _} {α3 : Sort _} {α4 : Sort _} {P0 P1 P2 : α0→α1→α2→α3→α4→Prop} {C : Prop} (h : ∃ x0 x1 x2 x3 x4,P0 x0 x1 x2 x3 x4∧P1 x0 x1 x2 x3 x4∧P2 x0 x1 x2 x3 x4) (g : ∀ x0 x1 x2 x3 x4,P0 x0 x1 x2 x3 x4→P1 x0 x1 x2 x3 x4→P2 x0 x1 x2 x3 x4→C) : C:=let ⟨x0,x1,x2,x3,x4,h0,h1,h2⟩:=h; g x0 x1 x2 x3 x4 h0 h1 h2
theorem e5a9 {α0 : Sort _} {α1 : Sort _} {α2 : Sort _} {α3 : Sort _} {α4 : Sort _} {P0 P1 P2 P3 P4 P5 P6 P7 P8 : α0→α1→α2→α3→α4→Prop} {C : Prop} (h : ∃ x0 x1 x2 x3 x4,P0 x0 x1 x2 x3 x4∧P1 x0 x1 x2 x3 x4∧P2 x0 x1 x2 x3 x4∧P3 x0 x1 x2 x3 x4∧P4 x0 x1 x2 x3 x4∧P5 x0 x1 x2 x3 x4∧P6 x0 x1 x2 x3 x4∧P7 x0 x1 x2 x3 x4∧P8 x0 x1 x2 x3 x4) (g : ∀ x0 x1 x2 x3 x4,P0 x0 x1 x2 x3 x4→P1 x0 x1 x2 x3 x4→P2 x0 x1 x2 x3 x4→P3 x0 x1 x2 x3 x4→P4 x0 x1 x2 x3 x4→P5 x0 x1 x2 x3 x4→P6 x0 x1 x2 x3 x4→P7 x0 x1 x2 x3 x4→P8 x0 x1 x2 x3 x4→C) : C:=let ⟨x0,x1,x2,x3,x4,h0,h1,h2,h3,h4,h5,h6,h7,h8⟩:=h; g x0 x1 x2 x3 x4 h0 h1 h2 h3 h4 h5 h6 h7 h8
theorem e6a4 {α0 : Sort _} {α1 : Sort _} {α2 : Sort _} {α3 : Sort _} {α4 : Sort _} {α5 : Sort _} {P0 P1 P2 P3 : α0→α1→α2→α3→α4→α5→Prop} {C : Prop} (h : ∃ x0 x1 x2 x3 x4 x5,P0 x0 x1 x2 x3 x4 x5∧P1 x0 x1 x2 x3 x4 x5∧P2 x0 x1 x2 x3 x4 x5∧P3 x0 x1 x2 x3 x4 x5) (g : ∀ x0 x1 x2 x3 x4 x5,P0 x0 x1 x2 x3 x4 x5→P1 x0 x1 x2 x3 x4 x5→P2 x0 x1 x2 x3 x4 x5→P3 x0 x1 x2 x3 x4 x5→C) : C:=let ⟨x0,x1,x2,x3,x4,x5,h0,h1,h2,h3⟩:=h; g x0 x1 x2 x3 x4 x5 h0 h1 h2 h3
theorem e6a8 {α0 : Sort _} {α1 : Sort _} {α2 : Sort _} {α3 : Sort _} {α4 : Sort _} {α5 : Sort _} {P0 P1 P2 P3 P4 P5 P6 P7 : α0→α1→α2→α3→α4→α5→Prop} {C : Prop} (h : ∃ x0 x1 x2 x3 x4 x5,P0 x0 x1 x2 x3 x4 x5∧P1 x0 x1 x2 x3 x4 x5∧P2 x0 x1 x2 x3 x4 x5∧P3 x0 x1 x2 x3 x4 x5∧P4 x0 x1 x2 x3 x4 x5∧P5 x0 x1 x2 x3 x4 x5∧P6 x0 x1 x2 x3 x4 x5∧P7 x0 x1 x2 x3 x4 x5) (g : ∀ x0 x1 x2 x3 x4 x5,P0 x0 x1 x2 x3 x4 x5→P1 x0 x1 x2 x3 x4 x5→P2 x0 x1 x2 x3 x4 x5→P3 x0 x1 x2 x3 x4 x5→P4 x0 x1 x2 x3 x4 x5→P5 x0 x1 x2 x3 x4 x5→P6 x0 x1 x2 x3 x4 x5→P7 x0 x1 x2 x3 x4 x5→C) : C:=let ⟨x0,x1,x2,x3,x4,x5,h0,h1,h2,h3,h4,h5,h6,h7⟩:=h; g x0 x1 x2 x3 x4 x5 h0 h1 h2 h3 h4 h5 h6 h7
end Mine

namespace Mine
open PySem PySem.W PyProof.Rows PySem.Calls
mutual
inductive Rd (h : Heap) : Value→PyData→Prop
  | nothing : Rd h .none .none
  | bool (b : Bool) : Rd h (.bool b) (.bool b)
  | int (i : Int) (t : Tok) : Rd h (.int i t) (.int i)
  | list {a : Addr} {vs : List Value} {n : Nat} {xs : List PyData} : h.get? a = some { cls:=.type "list",data:=.seq vs.toArray n }→RdA h vs xs→Rd h (.ref a) (.list xs)
  | tuple {a : Addr} {vs : List Value} {n : Nat} {xs : List PyData} : h.get? a = some { cls:=.type "tuple",data:=.seq vs.toArray n }→RdA h vs xs→Rd h (.ref a) (.tuple xs)
  | thing {a : Addr} : h.get? a = some { cls:=.type "object",data:=.plain }→Rd h (.ref a) (.dict [(.int (a : Nat),.none)])
  | mis {a : Addr} {dd : Addr} {vs : List Value} {n : Nat} {xs : List PyData} : h.get? a = some { cls:=.ref 135,dict:=some dd,data:=.seq vs.toArray n }→h.get? dd = some { cls:=.type "dict",data:=.dict #[] }→RdA h vs xs→Rd h (.ref a) (.dict [(.tuple xs,.none)])
  | node {a dx L : Addr} {np nd : Int} {t t' : Tok} : h.get? a = some { cls:=.ref 164,dict:=some dx,data:=.plain,slots:=#[some (.int nd t'),some (.int np t),some (.ref L)] }→h.get? dx = some { cls:=.type "dict",data:=.dict #[] }→Rd h (.ref a) (.dict [(.int np,.int nd)])
inductive RdA (h : Heap) : List Value→List PyData→Prop
  | nil : RdA h [] []
  | cons {v : Value} {vs : List Value} {d : PyData} {ds : List PyData} : Rd h v d→RdA h vs ds→RdA h (v :: vs) (d :: ds)
end
mutual
theorem Rd.keeps {h h' : Heap} (hk : ∀ b o,h.get? b = some o→h'.get? b = some o) : ∀ {v : Value} {d : PyData},Rd h v d→Rd h' v d
  | _,_,.nothing=>.nothing
  | _,_,.bool b=>.bool b
  | _,_,.int i t=>.int i t
  | _,_,.list e r=>.list (hk _ _ e) (RdA.keeps hk r)
  | _,_,.tuple e r=>.tuple (hk _ _ e) (RdA.keeps hk r)
  | _,_,.thing e=>.thing (hk _ _ e)
  | _,_,.mis e e2 r=>.mis (hk _ _ e) (hk _ _ e2) (RdA.keeps hk r)
  | _,_,.node e e2=>.node (hk _ _ e) (hk _ _ e2)
theorem RdA.keeps {h h' : Heap} (hk : ∀ b o,h.get? b = some o→h'.get? b = some o) : ∀ {vs : List Value} {ds : List PyData},RdA h vs ds→RdA h' vs ds
  | _,_,.nil=>.nil
  | _,_,.cons a r=>.cons (Rd.keeps hk a) (RdA.keeps hk r)
end
mutual
theorem Rd.reads {h : Heap} : ∀ {v : Value} {d : PyData},Rd h v d→d.canLay0 = true→∃ as,Reads h v d as
  | _,_,.nothing,_=>⟨_,.none⟩
  | _,_,.bool b,_=>⟨_,.bool b⟩
  | _,_,.int i t,_=>⟨_,.int i t⟩
  | _,_,.list e r,c=>let ⟨_,r⟩:=RdA.reads r (by simpa [PyData.canLay0] using c); ⟨_,.list e rfl rfl (by simpa using r)⟩
  | _,_,.tuple e r,c=>let ⟨_,r⟩:=RdA.reads r (by simpa [PyData.canLay0] using c); ⟨_,.tuple e rfl rfl (by simpa using r)⟩
  | _,_,.thing _,c=>by simp [PyData.canLay0] at c
  | _,_,.mis _ _ _,c=>by simp [PyData.canLay0] at c
  | _,_,.node _ _,c=>by simp [PyData.canLay0] at c
theorem RdA.reads {h : Heap} : ∀ {vs : List Value} {ds : List PyData},RdA h vs ds→PyData.canLayAll0 ds = true→∃ as,ReadsAll h vs ds as
  | _,_,.nil,_=>⟨_,.nil⟩
  | _,_,.cons a r,c=>by
    simp only [PyData.canLayAll0,Bool.and_eq_true] at c
    obtain ⟨_,a⟩:=Rd.reads a c.1
    obtain ⟨_,r⟩:=RdA.reads r c.2
    exact ⟨_,.cons a r⟩
end
noncomputable def Rp (h : Heap) (mt : List Addr) (v : Value) (d : PyData) : Prop:=Rd (hideAll h mt) v d
noncomputable def RpA (h : Heap) (mt : List Addr) (vs : List Value) (ds : List PyData) : Prop:=RdA (hideAll h mt) vs ds
theorem hid_not {h : Heap} {mt : List Addr} {b : Addr} {o : Obj} (e : (hideAll h mt).get? b = some o) : b ∉ mt∧h.get? b = some o :=
  ⟨fun hm=>absurd ((hideAll_none mt hm).symm.trans e) (by intro q; cases q),of_hideAll mt e⟩
theorem hid_mono {h h' : Heap} {mt mt' : List Addr} (hk : ∀ b o,b ∉ mt→h.get? b = some o→h'.get? b = some o)
    (hm : ∀ b ∈ mt',b ∈ mt ∨ h.get? b = none) : ∀ b o,(hideAll h mt).get? b = some o→(hideAll h' mt').get? b = some o:=by
  intro b o e
  obtain ⟨hn,ho⟩:=hid_not e
  refine hideAll_get mt' (hk b o hn ho) fun hb=>?_
  rcases hm b hb with h1 | h1
  · exact hn h1
  · rw [h1] at ho; cases ho
section
variable {h h' : Heap} {mt mt' : List Addr} {v : Value} {d : PyData} {vs ws : List Value} {ds es : List PyData} {a : Addr}
theorem Rp.mono (r : Rp h mt v d) (hk : ∀ b o,b ∉ mt→h.get? b = some o→h'.get? b = some o)
    (hm : ∀ b ∈ mt',b ∈ mt ∨ h.get? b = none) : Rp h' mt' v d:=Rd.keeps (hid_mono hk hm) r
theorem RpA.mono (r : RpA h mt vs ds) (hk : ∀ b o,b ∉ mt→h.get? b = some o→h'.get? b = some o)
    (hm : ∀ b ∈ mt',b ∈ mt ∨ h.get? b = none) : RpA h' mt' vs ds:=RdA.keeps (hid_mono hk hm) r
theorem Rp.ext (r : Rp h mt v d) (hk : ∀ b o,h.get? b = some o→h'.get? b = some o) : Rp h' mt v d :=
  r.mono (fun b o _ e=>hk b o e) fun _ hb=>.inl hb
theorem RpA.ext (r : RpA h mt vs ds) (hk : ∀ b o,h.get? b = some o→h'.get? b = some o) : RpA h' mt vs ds :=
  r.mono (fun b o _ e=>hk b o e) fun _ hb=>.inl hb
theorem Rp.all (r : Rp h mt v d) (c : d.canLay0 = true) : ∃ as,Reads h v d as:=Rd.reads (Rd.keeps (fun _ _ e=>of_hideAll mt e) r) c
theorem RpA.all (r : RpA h mt vs ds) (c : PyData.canLayAll0 ds = true) : ∃ as,ReadsAll h vs ds as:=RdA.reads (RdA.keeps (fun _ _ e=>of_hideAll mt e) r) c
theorem Rp.hide (r : Rp h mt v d) (hm : ∀ b ∈ mt',b ∈ mt ∨ h.get? b = none) : Rp h mt' v d:=r.mono (fun _ _ _ e=>e) hm
theorem RpA.hide (r : RpA h mt vs ds) (hm : ∀ b ∈ mt',b ∈ mt ∨ h.get? b = none) : RpA h mt' vs ds:=r.mono (fun _ _ _ e=>e) hm
theorem Rp.int (i : Int) (t : Tok) : Rp h mt (.int i t) (.int i):=Rd.int i t
theorem Rp.bool (b : Bool) : Rp h mt (.bool b) (.bool b):=Rd.bool b
theorem Rp.int_inv {i : Int} (r : Rp h mt v (.int i)) : ∃ t,v = .int i t:=by cases r; exact ⟨_,rfl⟩
theorem Rp.bool_inv {b : Bool} (r : Rp h mt v (.bool b)) : v = .bool b:=by cases r; rfl
theorem Rp.list_inv (r : Rp h mt v (.list ds)) : ∃ a vs,v = .ref a∧a ∉ mt∧h.PlainList a vs.toArray∧RpA h mt vs ds:=by
  cases r with
  | list ho hr =>
    obtain ⟨hn,ho'⟩:=hid_not ho
    exact ⟨_,_,rfl,hn,⟨_,ho'⟩,hr⟩
theorem Rp.tuple_inv (r : Rp h mt v (.tuple ds)) : ∃ a vs n,v = .ref a∧a ∉ mt∧h.get? a = some { cls:=.type "tuple",data:=.seq vs.toArray n }∧RpA h mt vs ds:=by
  cases r with
  | tuple ho hr =>
    obtain ⟨hn,ho'⟩:=hid_not ho
    exact ⟨_,_,_,rfl,hn,ho',hr⟩
theorem Rp.mkList (hl : h.PlainList a vs.toArray) (hn : a ∉ mt) (r : RpA h mt vs ds) : Rp h mt (.ref a) (.list ds) :=
  let ⟨_,ho⟩:=hl; Rd.list (hideAll_get mt ho hn) r
theorem Rp.mkTuple {n : Nat} (hl : h.get? a = some { cls:=.type "tuple",data:=.seq vs.toArray n }) (hn : a ∉ mt) (r : RpA h mt vs ds) : Rp h mt (.ref a) (.tuple ds) :=
  Rd.tuple (hideAll_get mt hl hn) r
theorem Rp.mis_inv (r : Rp h mt v (.dict [(.tuple ds,.none)])) : ∃ a vs n dd,v = .ref a∧a ∉ mt∧h.get? a = some { cls:=.ref 135,dict:=some dd,data:=.seq vs.toArray n }∧h.get? dd = some { cls:=.type "dict",data:=.dict #[] }∧RpA h mt vs ds:=by
  cases r with
  | mis ho hd hr =>
    obtain ⟨hn,ho'⟩:=hid_not ho
    exact ⟨_,_,_,_,rfl,hn,ho',(hid_not hd).2,hr⟩
theorem Rp.mkMis {n : Nat} {dd : Addr} (hl : h.get? a = some { cls:=.ref 135,dict:=some dd,data:=.seq vs.toArray n }) (hn : a ∉ mt) (hd : h.get? dd = some { cls:=.type "dict",data:=.dict #[] }) (hdn : dd ∉ mt) (r : RpA h mt vs ds) : Rp h mt (.ref a) (.dict [(.tuple ds,.none)]) :=
  Rd.mis (hideAll_get mt hl hn) (hideAll_get mt hd hdn) r
theorem Rp.thing_inv {k : Int} (r : Rp h mt v (.dict [(.int k,.none)])) : ∃ a : Addr,v = .ref a∧k = (a : Nat)∧a ∉ mt∧h.get? a = some { cls:=.type "object",data:=.plain }:=by
  cases r with
  | thing ho =>
    obtain ⟨hn,ho'⟩:=hid_not ho
    exact ⟨_,rfl,rfl,hn,ho'⟩
theorem Rp.mkThing (hl : h.get? a = some { cls:=.type "object",data:=.plain }) (hn : a ∉ mt) : Rp h mt (.ref a) (.dict [(.int (a : Nat),.none)]) :=
  Rd.thing (hideAll_get mt hl hn)
theorem RpA.nil : RpA h mt [] []:=RdA.nil
theorem RpA.cons (r : Rp h mt v d) (rs : RpA h mt vs ds) : RpA h mt (v :: vs) (d :: ds):=RdA.cons r rs
theorem RpA.cons_inv (rs : RpA h mt vs (d :: ds)) : ∃ v vs',vs = v :: vs'∧Rp h mt v d∧RpA h mt vs' ds:=by
  cases rs with
  | cons r1 r2=>exact ⟨_,_,rfl,r1,r2⟩
theorem RpA.cons_inv' (rs : RpA h mt (v :: vs) ds) : ∃ d ds',ds = d :: ds'∧Rp h mt v d∧RpA h mt vs ds':=by
  cases rs with
  | cons r1 r2=>exact ⟨_,_,rfl,r1,r2⟩
theorem RpA.nil_inv (rs : RpA h mt vs []) : vs = []:=by cases rs; rfl
theorem RpA.nil_inv' (rs : RpA h mt [] ds) : ds = []:=by cases rs; rfl
end
theorem RpA.length {h : Heap} {mt : List Addr} : ∀ {vs : List Value} {ds : List PyData},RpA h mt vs ds→vs.length = ds.length
  | [],_,r=>by rw [r.nil_inv']; rfl
  | _ :: _,_,r=>by
    obtain ⟨d,ds',rfl,_,r⟩:=r.cons_inv'
    simp [RpA.length r]
theorem RpA.get {h : Heap} {mt : List Addr} : ∀ {vs : List Value} {ds : List PyData},RpA h mt vs ds→∀ {i : Nat} {d : PyData},ds[i]? = some d→∃ v,vs[i]? = some v∧Rp h mt v d
  | [],_,r,i,d,e=>by rw [r.nil_inv'] at e; simp at e
  | v :: vs,_,r,i,d,e=>by
    refine e2a3 r.cons_inv' fun d' ds' zr383 r1 r2=>?_
    subst zr383
    cases i with
    | zero=>simp at e; subst e; exact ⟨v,rfl,r1⟩
    | succ i=>simpa using r2.get (by simpa using e)
theorem RpA.get' {h : Heap} {mt : List Addr} : ∀ {vs : List Value} {ds : List PyData},RpA h mt vs ds→∀ {i : Nat} {v : Value},vs[i]? = some v→∃ d,ds[i]? = some d∧Rp h mt v d
  | [],_,r,i,v,e=>by simp at e
  | u :: vs,_,r,i,v,e=>by
    refine e2a3 r.cons_inv' fun d' ds' zr384 r1 r2=>?_
    subst zr384
    cases i with
    | zero=>simp at e; subst e; exact ⟨d',rfl,r1⟩
    | succ i=>simpa using r2.get' (by simpa using e)
theorem RpA.append {h : Heap} {mt : List Addr} : ∀ {vs ws : List Value} {ds es : List PyData},RpA h mt vs ds→RpA h mt ws es→RpA h mt (vs ++ ws) (ds ++ es)
  | [],_,ds,_,r,q=>by rw [r.nil_inv']; exact q
  | v :: vs,_,_,_,r,q=>by
    obtain ⟨d',ds',rfl,r1,r2⟩:=r.cons_inv'
    exact .cons r1 (r2.append q)
theorem RpA.snoc {h : Heap} {mt : List Addr} {vs : List Value} {ds : List PyData} {v : Value} {d : PyData} (r : RpA h mt vs ds) (q : Rp h mt v d) : RpA h mt (vs ++ [v]) (ds ++ [d]):=r.append (.cons q .nil)
theorem RpA.ints {h : Heap} {mt : List Addr} : ∀ {vs : List Value} {ns : List Int},RpA h mt vs (ns.map .int)→IntsAre vs ns
  | [],ns,r=>by
    have:=r.length
    cases ns with
    | nil=>exact .nil
    | cons=>simp at this
  | v :: vs,ns,r=>by
    obtain ⟨d',ds',e,r1,r2⟩:=r.cons_inv'
    cases ns with
    | nil=>simp at e
    | cons n ns =>
      simp at e
      obtain ⟨rfl,rfl⟩:=e
      obtain ⟨t,rfl⟩:=r1.int_inv
      exact .cons n t r2.ints
theorem RpA.ofInts {h : Heap} {mt : List Addr} {vs : List Value} {ns : List Int} (r : IntsAre vs ns) : RpA h mt vs (ns.map .int):=by
  induction r with
  | nil=>exact .nil
  | cons n t _ ih=>exact .cons (.int n t) ih
theorem tup_is {h : Heap} {a : Addr} {vs : List Value} {n : Nat} (e : h.get? a = some { cls:=.type "tuple",data:=.seq vs.toArray n }) : IsTup h a vs.toArray:=⟨_,e,rfl,n,rfl⟩
theorem Keeps.rfl' {s : Shared} : Keeps s s:=⟨s.heap,s.toks,rfl,fun _ _ e=>e⟩
theorem Keeps.trans' {s s₁ s₂ : Shared} (a : Keeps s s₁) (b : Keeps s₁ s₂) : Keeps s s₂:=by
  obtain ⟨h₁,t₁,rfl,k₁⟩:=a
  obtain ⟨h₂,t₂,rfl,k₂⟩:=b
  exact ⟨h₂,t₂,rfl,fun b o e=>k₂ b o (k₁ b o e)⟩
theorem Keeps.ext {s s₁ : Shared} (a : Keeps s s₁) : ∀ b o,s.heap.get? b = some o→s₁.heap.get? b = some o:=by
  obtain ⟨h₁,t₁,rfl,k₁⟩:=a; exact k₁
theorem Keeps.tok {s : Shared} (t : Nat) : Keeps s { s with toks:=t }:=⟨s.heap,t,rfl,fun _ _ e=>e⟩
theorem Keeps.of {s : Shared} {h' : Heap} {t : Nat} (k : ∀ b o,s.heap.get? b = some o→h'.get? b = some o) : Keeps s { s with heap:=h',toks:=t }:=⟨h',t,rfl,k⟩
theorem Keeps.push {s : Shared} (o : Obj) : Keeps s { s with heap:=s.heap.push o }:=⟨_,s.toks,rfl,fun _ _ e=>Heap.get?_push_of_some _ e⟩
end Mine
namespace Mine
open PySem PySem.W PyProof.Rows PySem.Calls
structure Gl (K : Frag) (mg mb : Str→Option Value) (h : Heap) : Prop where
  g : h.Ns mainGlobals mg
  b : h.Ns builtinsNs mb
  k : K.In h
  lim : h.NoLimit
theorem Gl.ext {K : Frag} {mg mb : Str→Option Value} {h h' : Heap} (x : Gl K mg mb h) (hk : ∀ b o,h.get? b = some o→h'.get? b = some o) : Gl K mg mb h' :=
  ⟨x.g.keeps hk,x.b.keeps hk,fun a o e=>hk _ _ (x.k a o e),let ⟨mc,a,b⟩:=x.lim; ⟨mc,a.keeps hk,b⟩⟩
noncomputable def Var (env : Env) (h : Heap) (x : Str) (v : Value) : Prop :=
  env.scope.kind = .function∧((env.kindOf x = some .local∧∃ m,h.Ns env.locals m∧m x = some v) ∨
    ((env.kindOf x = some .cell ∨ (env.kindOf x = some .free∧(x == ("__classdict__" : Str)) = false))∧∃ c,env.cells.lookup x = some c∧h.IsCell c (some v)))
theorem Var.ext {env : Env} {h h' : Heap} {x : Str} {v : Value} (a : Var env h x v) (hk : ∀ b o,h.get? b = some o→h'.get? b = some o) : Var env h' x v:=by
  obtain ⟨hf,a | a⟩:=a
  · refine e0a2 a fun hl zt334=>?_
    refine e1a2 zt334 fun m hn hm=>?_
    exact ⟨hf,.inl ⟨hl,m,hn.keeps hk,hm⟩⟩
  · refine e0a2 a fun hl zt335=>?_
    refine e1a2 zt335 fun c hc hv=>?_
    exact ⟨hf,.inr ⟨hl,c,hc,hv.keeps hk⟩⟩
theorem Var.load {M : Model} {A : Around} {E : Value→Shared→Prop} {s : Shared} {env : Env} {x : Str} {v : Value} {Q : Value→Shared→Prop} (a : Var env s.heap x v) (h : Q v s) : wpAny M A (loadName env x) Q E s:=by
  obtain ⟨hf,a | a⟩:=a
  · obtain ⟨hl,m,hn,hm⟩:=a
    exact wpAny_loadName_local hf hl hn hm h
  · obtain ⟨hl,c,hc,hv⟩:=a
    rcases hl with hl | ⟨hl,hn⟩
    · exact wpAny_loadName_cell hf hl hc hv h
    · exact wpAny_loadName_free hf hl hc hv h hn
structure Sv (K : Frag) (mg mb : Str→Option Value) (env : Env) (mt : List Addr) (ρ : List (Str × PyData)) (s : Shared) : Prop where
  gl : Gl K mg mb s.heap
  vars : ∀ x d,ρ.lookup x = some d→∃ v,Var env s.heap x v∧Rp s.heap mt v d
  mex : ∀ a ∈ mt,∃ o,s.heap.get? a = some o
  glb : env.globals = mainGlobals
  blt : env.builtins = builtinsNs
  knd : env.scope.kind = .function
section
variable {prog : Program} {w : World} {K : Frag} {mg mb : Str→Option Value} {A : Around} {env : Env} {ρ : List (Str × PyData)} {mt : List Addr}
theorem Sv.keeps {s s' : Shared} (x : Sv K mg mb env mt ρ s) (k : Keeps s s') : Sv K mg mb env mt ρ s' :=
  ⟨x.gl.ext (Keeps.ext k),fun y d e=>let ⟨v,a,b⟩:=x.vars y d e; ⟨v,a.ext (Keeps.ext k),b.ext (Keeps.ext k)⟩,fun a ha=>let ⟨o,e⟩:=x.mex a ha; ⟨o,Keeps.ext k _ _ e⟩,x.glb,x.blt,x.knd⟩
theorem Sv.new {s : Shared} (x : Sv K mg mb env mt ρ s) : s.heap.objs.size ∉ mt:=fun h=>let ⟨_,e⟩:=x.mex _ h; Nat.lt_irrefl _ (Heap.lt_size e)
end
noncomputable def PE (prog : Program) (w : World) (K : Frag) (mg mb : Str→Option Value) (A : Around) (env : Env) (ρ : List (Str × PyData)) (e : Expr) (d : PyData) : Prop :=
  ∀ (E : Value→Shared→Prop) (s : Shared) (mt : List Addr),Sv K mg mb env mt ρ s→wpAny (model prog w) A (eval e env) (fun v s'=>Keeps s s'∧Rp s'.heap mt v d) E s
noncomputable def PT (prog : Program) (w : World) (K : Frag) (mg mb : Str→Option Value) (A : Around) (env : Env) (ρ : List (Str × PyData)) (e : Expr) (b : Bool) : Prop :=
  ∀ (E : Value→Shared→Prop) (s : Shared) (mt : List Addr),Sv K mg mb env mt ρ s→wpAny (model prog w) A (isTrue e env (eval e env)) (fun r s'=>r = b∧Keeps s s') E s
section
variable {prog : Program} {w : World} {K : Frag} {mg mb : Str→Option Value} {A : Around} {env : Env} {ρ : List (Str × PyData)}
theorem pe_int (i : Int) (k : Nat) (pos : Pos) : PE prog w K mg mb A env ρ (.Constant (.int i) k pos) (.int i):=fun _ s _ _ =>
  wpAny_Constant_int ⟨Keeps.tok _,.int _ _⟩
theorem pe_name {x : Str} {d : PyData} (pos : Pos) (hx : ρ.lookup x = some d) (hd : (x == ("__debug__" : Str)) = false:=by decide) : PE prog w K mg mb A env ρ (.Name x pos) d:=fun _ _ _ S=>by
  obtain ⟨v,hv,hr⟩:=S.vars x d hx
  exact wpAny_Name (hv.load ⟨Keeps.rfl',hr⟩) hd
theorem pe_two {e1 e2 : Expr} {d1 d2 : PyData} {E : Value→Shared→Prop} {s : Shared} {mt : List Addr} {Q : Value→Value→Shared→Prop} (S : Sv K mg mb env mt ρ s)
    (h1 : PE prog w K mg mb A env ρ e1 d1) (h2 : PE prog w K mg mb A env ρ e2 d2)
    (h : ∀ a b s',Keeps s s'→Sv K mg mb env mt ρ s'→Rp s'.heap mt a d1→Rp s'.heap mt b d2→Q a b s') :
    wpAny (model prog w) A (eval e1 env) (fun a s₁=>wpAny (model prog w) A (eval e2 env) (fun b s₂=>Q a b s₂) E s₁) E s :=
  wpAny_mono (h1 E s mt S) (fun a s₁ ⟨k1,r1⟩=>wpAny_mono (h2 E s₁ mt (S.keeps k1)) (fun b s₂ ⟨k2,r2⟩ =>
    h a b s₂ (Keeps.trans' k1 k2) (S.keeps (Keeps.trans' k1 k2)) (r1.ext (Keeps.ext k2)) r2) fun _ _ e=>e) fun _ _ e=>e
theorem pe_add {l r : Expr} {a b : Int} (pos : Pos) (hl : PE prog w K mg mb A env ρ l (.int a)) (hr : PE prog w K mg mb A env ρ r (.int b)) : PE prog w K mg mb A env ρ (.BinOp l .Add r pos) (.int (a + b)):=fun E s mt S =>
  wpAny_BinOp (pe_two S hl hr fun x y s' k _ rx ry=>by
    obtain ⟨t,rfl⟩:=rx.int_inv
    obtain ⟨u,rfl⟩:=ry.int_inv
    exact add_int ⟨Keeps.trans' k (Keeps.tok _),.int _ _⟩)
theorem pe_mod {l r : Expr} {a b : Int} (pos : Pos) (hb : b ≠ 0) (hl : PE prog w K mg mb A env ρ l (.int a)) (hr : PE prog w K mg mb A env ρ r (.int b)) : PE prog w K mg mb A env ρ (.BinOp l .Mod r pos) (.int (a.fmod b)):=fun E s mt S =>
  wpAny_BinOp (pe_two S hl hr fun x y s' k _ rx ry=>by
    obtain ⟨t,rfl⟩:=rx.int_inv
    obtain ⟨u,rfl⟩:=ry.int_inv
    exact mod_int' hb ⟨Keeps.trans' k (Keeps.tok _),.int _ _⟩)
theorem pe_fdiv {l r : Expr} {a b : Int} (pos : Pos) (hb : b ≠ 0) (hp : Builtin.divisionGoesByPylong a b = false) (hl : PE prog w K mg mb A env ρ l (.int a)) (hr : PE prog w K mg mb A env ρ r (.int b)) : PE prog w K mg mb A env ρ (.BinOp l .FloorDiv r pos) (.int (a.fdiv b)):=fun E s mt S =>
  wpAny_BinOp (pe_two S hl hr fun x y s' k _ rx ry=>by
    obtain ⟨t,rfl⟩:=rx.int_inv
    obtain ⟨u,rfl⟩:=ry.int_inv
    exact floordiv_int hb ⟨Keeps.trans' k (Keeps.tok _),.int _ _⟩ (.inl hp))
theorem pt_eq {l r : Expr} {a b : Int} (pos : Pos) (hl : PE prog w K mg mb A env ρ l (.int a)) (hr : PE prog w K mg mb A env ρ r (.int b)) (hm : behindInMarks .Eq r = false:=by with_unfolding_all rfl) : PT prog w K mg mb A env ρ (.Compare l [.Eq] [r] pos) (a == b):=fun E s mt S =>
  wpAny_isTrue_Compare1 (pe_two S hl hr fun x y s' k _ rx ry=>by
    obtain ⟨t,rfl⟩:=rx.int_inv
    obtain ⟨u,rfl⟩:=ry.int_inv
    exact eq_int (wpAny_truthy_bool ⟨rfl,k⟩)) hm
theorem pt_ne {l r : Expr} {a b : Int} (pos : Pos) (hl : PE prog w K mg mb A env ρ l (.int a)) (hr : PE prog w K mg mb A env ρ r (.int b)) (hm : behindInMarks .NotEq r = false:=by with_unfolding_all rfl) : PT prog w K mg mb A env ρ (.Compare l [.NotEq] [r] pos) (a != b):=fun E s mt S =>
  wpAny_isTrue_Compare1 (pe_two S hl hr fun x y s' k _ rx ry=>by
    obtain ⟨t,rfl⟩:=rx.int_inv
    obtain ⟨u,rfl⟩:=ry.int_inv
    exact ne_int (wpAny_truthy_bool ⟨rfl,k⟩)) hm
theorem pe_lt {l r : Expr} {a b : Int} (pos : Pos) (hl : PE prog w K mg mb A env ρ l (.int a)) (hr : PE prog w K mg mb A env ρ r (.int b)) (hm : behindInMarks .Lt r = false:=by with_unfolding_all rfl) : PE prog w K mg mb A env ρ (.Compare l [.Lt] [r] pos) (.bool (decide (a < b))):=fun E s mt S =>
  wpAny_Compare1 (pe_two S hl hr fun x y s' k _ rx ry=>by
    obtain ⟨t,rfl⟩:=rx.int_inv
    obtain ⟨u,rfl⟩:=ry.int_inv
    exact lt_int ⟨k,.bool _⟩) hm
end
end Mine
namespace Mine
open PySem PySem.W PyProof.Rows PySem.Calls
structure Aok (n : Nat) (A : Around) : Prop where
  hd : A.handled = none
  dp : A.depth + n < recursionLimit
  un : A.units + 100 * n + 1000 < cLine
section
variable {prog : Program} {w : World} {K : Frag} {mg mb : Str→Option Value} {A : Around} {env : Env} {ρ : List (Str × PyData)}
inductive PEs (prog : Program) (w : World) (K : Frag) (mg mb : Str→Option Value) (A : Around) (env : Env) (ρ : List (Str × PyData)) : List Expr→List PyData→Prop
  | nil : PEs prog w K mg mb A env ρ [] []
  | cons {e : Expr} {es : List Expr} {d : PyData} {ds : List PyData} : PE prog w K mg mb A env ρ e d→(∀ rest,starEach (e :: rest) env = (false,eval e env) :: starEach rest env)→PEs prog w K mg mb A env ρ es ds→PEs prog w K mg mb A env ρ (e :: es) (d :: ds)
theorem pe_items {pos : Pos} {es : List Expr} {ds : List PyData} (h : PEs prog w K mg mb A env ρ es ds) : ∀ {E : Value→Shared→Prop} {s : Shared} {mt : List Addr},Sv K mg mb env mt ρ s →
    wpAny (model prog w) A (spliced (backTo pos (starEach es env))) (fun vs s'=>Keeps s s'∧RpA s'.heap mt vs ds) E s:=by
  induction h with
  | nil=>intro E s mt S; exact wpAny_items_nil ⟨Keeps.rfl',.nil⟩
  | cons h1 he _ ih =>
    intro E s mt S
    refine wpAny_items_cons (wpAny_mono (h1 E s mt S) (fun v s₁ ⟨k1,r1⟩=>wpAny_mono (ih (S.keeps k1)) (fun vs s₂ ⟨k2,r2⟩=>?_) fun _ _ e=>e) fun _ _ e=>e) (he _)
    exact ⟨Keeps.trans' k1 k2,.cons (r1.ext (Keeps.ext k2)) r2⟩
theorem pe_tuple {es : List Expr} {ds : List PyData} (k : Nat) (pos : Pos) (h : PEs prog w K mg mb A env ρ es ds) (hz : ds.length ≤ sizeLine:=by size_fits) : PE prog w K mg mb A env ρ (.Tuple es k pos) (.tuple ds):=fun E s mt S =>
  wpAny_Tuple (wpAny_mono (pe_items h S) (fun vs s₁ ⟨k1,r1⟩=>⟨by rw [r1.length]; exact hz,Keeps.trans' k1 (Keeps.push _),
    .mkTuple (Heap.get?_push_size _ rfl) (S.keeps k1).new (r1.ext fun _ _ e=>Heap.get?_push_of_some _ e)⟩) fun _ _ e=>e)
theorem pe_list {es : List Expr} {ds : List PyData} (pos : Pos) (h : PEs prog w K mg mb A env ρ es ds) (hz : ds.length ≤ sizeLine:=by size_fits) : PE prog w K mg mb A env ρ (.List es pos) (.list ds):=fun E s mt S =>
  wpAny_List (wpAny_mono (pe_items h S) (fun vs s₁ ⟨k1,r1⟩=>⟨by rw [r1.length]; exact hz,Keeps.trans' k1 (Keeps.push _),
    .mkList ⟨_,Heap.get?_push_size _ rfl⟩ (S.keeps k1).new (r1.ext fun _ _ e=>Heap.get?_push_of_some _ e)⟩) fun _ _ e=>e)
theorem pe_subL {value slice : Expr} {ds : List PyData} {k : Int} {d : PyData} (pos : Pos) (hv : PE prog w K mg mb A env ρ value (.list ds)) (hs : PE prog w K mg mb A env ρ slice (.int k)) (h0 : 0 ≤ k) (hk : k < 2 ^ 63) (hd : ds[k.toNat]? = some d)
    (hsb : ∀ o i,subscripted slice false o i = operate [o,i] (getItem o i):=by intro _ _; with_unfolding_all rfl) : PE prog w K mg mb A env ρ (.Subscript value slice pos) d:=fun E s mt S =>
  Subscript_ (pe_two S hv hs fun x y s' kk _ rx ry=>by
    refine e2a4 rx.list_inv fun a vs zr240 hn hl rs=>?_
    subst zr240
    refine e1a1 ry.int_inv fun t zr241=>?_
    subst zr241
    refine e1a2 (rs.get hd) fun v hv hr=>?_
    exact tail_any hl.isList.typeIs slot_list_getitem.lookup (wpAny_getItem_list hl.isList h0 hk (by simpa using hv) ⟨kk,hr⟩) (hsb _ _))
theorem pe_subT {value slice : Expr} {ds : List PyData} {k : Int} {d : PyData} (pos : Pos) (hv : PE prog w K mg mb A env ρ value (.tuple ds)) (hs : PE prog w K mg mb A env ρ slice (.int k)) (h0 : 0 ≤ k) (hk : k < 2 ^ 63) (hd : ds[k.toNat]? = some d)
    (hsb : ∀ o i,subscripted slice false o i = operate [o,i] (getItem o i):=by intro _ _; with_unfolding_all rfl) : PE prog w K mg mb A env ρ (.Subscript value slice pos) d:=fun E s mt S =>
  Subscript_ (pe_two S hv hs fun x y s' kk _ rx ry=>by
    refine e3a4 rx.tuple_inv fun a vs n zr242 hn hl rs=>?_
    subst zr242
    refine e1a1 ry.int_inv fun t zr243=>?_
    subst zr243
    refine e1a2 (rs.get hd) fun v hv hr=>?_
    refine item_tupleT (tup_is hl) (by lia) hk (j:=k.toNat) ?_ hv ⟨kk,hr⟩ (hsb _ _)
    have hlt : k.toNat < vs.length:=(List.getElem?_eq_some_iff.mp hv).1
    unfold seqIndex?
    have : ¬ k < 0:=by lia
    simp [this,hlt]
    lia)
theorem any_eqv_ints (k : Int) : ∀ ns : List Int,((ns.map PyData.int).any fun y=>PyData.eqv y (.int k)) = decide (k ∈ ns)
  | []=>by simp
  | n :: ns=>by
    rw [List.map_cons,List.any_cons,any_eqv_ints k ns]
    by_cases h : k = n
    · subst h; simp [PyData.eqv]
    · have h' : ¬ n = k:=fun e=>h e.symm
      simp [PyData.eqv,h,h']
theorem pt_in {l r : Expr} {k : Int} {ns : List Int} (pos : Pos) (hA : Aok 0 A) (hl : PE prog w K mg mb A env ρ l (.int k)) (hr : PE prog w K mg mb A env ρ r (.list (ns.map .int))) (hm : behindInMarks .In r = false:=by with_unfolding_all rfl) : PT prog w K mg mb A env ρ (.Compare l [.In] [r] pos) (decide (k ∈ ns)):=fun E s mt S =>
  wpAny_isTrue_Compare1 (pe_two S hl hr fun x y s' kk _ rx ry=>by
    obtain ⟨_,q1⟩:=ry.all (by simpa [PyData.canLay0] using ke_canLayAll0 ns)
    obtain ⟨_,q2⟩:=rx.all rfl
    refine SeqAt.in_list_reads q1 q2 (ke_canLayAll0 ns) rfl (by have:=hA.un; rw [ke_depthAll]; lia) ?_
    rw [any_eqv_ints]
    exact wpAny_truthy_bool ⟨rfl,kk⟩) hm
theorem pt_notIn {l r : Expr} {k : Int} {ns : List Int} (pos : Pos) (hA : Aok 0 A) (hl : PE prog w K mg mb A env ρ l (.int k)) (hr : PE prog w K mg mb A env ρ r (.list (ns.map .int))) (hm : behindInMarks .NotIn r = false:=by with_unfolding_all rfl) : PT prog w K mg mb A env ρ (.Compare l [.NotIn] [r] pos) (!decide (k ∈ ns)):=fun E s mt S =>
  wpAny_isTrue_Compare1 (pe_two S hl hr fun x y s' kk _ rx ry=>by
    obtain ⟨_,q1⟩:=ry.all (by simpa [PyData.canLay0] using ke_canLayAll0 ns)
    obtain ⟨_,q2⟩:=rx.all rfl
    refine SeqAt.notIn_list_reads q1 q2 (ke_canLayAll0 ns) rfl (by have:=hA.un; rw [ke_depthAll]; omega) ?_
    rw [any_eqv_ints]
    exact wpAny_truthy_bool ⟨rfl,kk⟩) hm
theorem pt_not {x : Expr} {b : Bool} (pos : Pos) (h : PT prog w K mg mb A env ρ x b) : PT prog w K mg mb A env ρ (.UnaryOp .Not x pos) (!b):=fun E s mt S =>
  wpAny_isTrue_Not (wpAny_mono (h E s mt S) (fun r s' ⟨e,k⟩=>⟨by rw [e],k⟩) fun _ _ e=>e)
theorem pt_and {x y : Expr} {a b : Bool} (pos : Pos) (h1 : PT prog w K mg mb A env ρ x a) (h2 : a = true→PT prog w K mg mb A env ρ y b) : PT prog w K mg mb A env ρ (.BoolOp .And [x,y] pos) (a && b):=fun E s mt S =>
  wpAny_isTrue_BoolOp (wpAny_allTrue_And_cons (wpAny_mono (h1 E s mt S) (fun r s₁ ⟨e,k⟩=>by
    subst e
    cases r with
    | false=>exact ⟨rfl,k⟩
    | true =>
      refine wpAny_allTrue_And_cons (wpAny_mono (h2 rfl E s₁ mt (S.keeps k)) (fun r s₂ ⟨e,k2⟩=>?_) fun _ _ e=>e)
      subst e
      cases r with
      | false=>exact ⟨rfl,Keeps.trans' k k2⟩
      | true=>exact wpAny_allTrue_And_nil ⟨rfl,Keeps.trans' k k2⟩) fun _ _ e=>e))
theorem pt_or {x y : Expr} {a b : Bool} (pos : Pos) (h1 : PT prog w K mg mb A env ρ x a) (h2 : a = false→PT prog w K mg mb A env ρ y b) : PT prog w K mg mb A env ρ (.BoolOp .Or [x,y] pos) (a || b):=fun E s mt S =>
  wpAny_isTrue_BoolOp (wpAny_allTrue_Or_cons (wpAny_mono (h1 E s mt S) (fun r s₁ ⟨e,k⟩=>by
    subst e
    cases r with
    | true=>exact ⟨rfl,k⟩
    | false =>
      refine wpAny_allTrue_Or_cons (wpAny_mono (h2 rfl E s₁ mt (S.keeps k)) (fun r s₂ ⟨e,k2⟩=>?_) fun _ _ e=>e)
      subst e
      cases r with
      | true=>exact ⟨rfl,Keeps.trans' k k2⟩
      | false=>exact wpAny_allTrue_Or_nil ⟨rfl,Keeps.trans' k k2⟩) fun _ _ e=>e))
end
end Mine
namespace Mine
open PySem PySem.W PyProof.Rows PySem.Calls
noncomputable def CC (prog : Program) (w : World) (K : Frag) (mg mb : Str→Option Value) (A : Around) (f : Value) (ds : List PyData) (d : PyData) : Prop :=
  ∀ (E : Value→Shared→Prop) (s : Shared) (mt : List Addr) (vs : List Value),Gl K mg mb s.heap→(∀ a ∈ mt,∃ o,s.heap.get? a = some o)→RpA s.heap mt vs ds →
    wpAny (model prog w) A (call f vs) (fun v s'=>Keeps s s'∧Rp s'.heap mt v d) E s
section
variable {prog : Program} {w : World} {K : Frag} {mg mb : Str→Option Value} {A : Around} {env : Env} {ρ : List (Str × PyData)} {mt : List Addr} {s : Shared} {E : Value→Shared→Prop}
theorem nm_b {x : Str} {v : Value} {pos : Pos} {Q : Value→Shared→Prop} (S : Sv K mg mb env mt ρ s) (hk : env.kindOf x = some .globalImplicit) (hg : mg x = none) (hb : mb x = some v) (h : Q v s)
    (hd : (x == ("__debug__" : Str)) = false:=by decide) : wpAny (model prog w) A (eval (.Name x pos) env) Q E s :=
  Name_function_global S.knd hk (loadGlobal_builtin (by rw [S.glb]; exact S.gl.g) hg (by rw [S.blt]; exact S.gl.b) hb h) hd
theorem nm_g {x : Str} {v : Value} {pos : Pos} {Q : Value→Shared→Prop} (S : Sv K mg mb env mt ρ s) (hk : env.kindOf x = some .globalImplicit) (hg : mg x = some v) (h : Q v s)
    (hd : (x == ("__debug__" : Str)) = false:=by decide) : wpAny (model prog w) A (eval (.Name x pos) env) Q E s :=
  Name_function_global S.knd hk (loadGlobal_global (by rw [S.glb]; exact S.gl.g) hg h) hd
theorem any_plain {pos : Pos} : ∀ {es : List Expr} {ds : List PyData},PEs prog w K mg mb A env ρ es ds→(backTo pos (starEach es env)).any (·.1) = false
  | _,_,.nil=>rfl
  | _,_,.cons _ he r=>by rw [he]; show (false || (backTo pos (starEach _ env)).any (·.1)) = false; rw [any_plain r]; rfl
theorem pe_args {f : Value} {pos : Pos} {es : List Expr} {ds : List PyData} (h : PEs prog w K mg mb A env ρ es ds) (S : Sv K mg mb env mt ρ s) :
    wpAny (model prog w) A (evalArgs f true (backTo pos (starEach es env)) []) (fun a s'=>a.kw = []∧Keeps s s'∧RpA s'.heap mt a.pos ds) E s:=by
  cases h with
  | nil=>exact evalArgs_nil3 ⟨rfl,Keeps.rfl',.nil⟩
  | cons h1 he r =>
    have z:=pe_items (pos:=pos) (E:=E) (.cons h1 he r) S
    rw [he] at z ⊢
    exact evalArgs_plain (wpAny_mono z (fun vs s' h'=>⟨rfl,h'⟩) fun _ _ e=>e)
theorem pe_call_b {x : Str} {id : String} {es : List Expr} {ds : List PyData} {d : PyData} (p pos : Pos) (hk : env.kindOf x = some .globalImplicit) (hg : mg x = none) (hb : mb x = some (.builtin id))
    (hc : CC prog w K mg mb A (.builtin id) ds d) (h : PEs prog w K mg mb A env ρ es ds) (hd : (x == ("__debug__" : Str)) = false:=by decide) : PE prog w K mg mb A env ρ (.Call (.Name x p) es [] pos) d:=fun E s mt S =>
  Call_Name rfl (nm_b S hk hg hb (callWith_builtin (any_plain h) (wpAny_mono (pe_args h S) (fun a s₁ ⟨e,k1,r1⟩=>by
    rw [e]
    exact wpAny_mono (hc E s₁ mt a.pos (S.keeps k1).gl (S.keeps k1).mex r1) (fun v s₂ ⟨k2,r2⟩=>⟨Keeps.trans' k1 k2,r2⟩) fun _ _ e=>e) fun _ _ e=>e)) hd)
theorem pe_call_f {x : Str} {f : Addr} {o : Obj} {fd : FuncData} {es : List Expr} {ds : List PyData} {d : PyData} (p pos : Pos) (hk : env.kindOf x = some .globalImplicit) (hg : mg x = some (.ref f)) (ho : K.lookup f = some o) (hf : o.data = .func fd)
    (hc : CC prog w K mg mb A (.ref f) ds d) (h : PEs prog w K mg mb A env ρ es ds) (hd : (x == ("__debug__" : Str)) = false:=by decide) : PE prog w K mg mb A env ρ (.Call (.Name x p) es [] pos) d:=fun E s mt S =>
  Call_Name rfl (nm_g S hk hg (callWith_function (wpAny_mono (pe_args h S) (fun a s₁ ⟨e,k1,r1⟩=>by
    rw [e]
    exact ⟨⟨(S.keeps k1).gl.k _ _ ho,hf⟩,wpAny_mono (hc E s₁ mt a.pos (S.keeps k1).gl (S.keeps k1).mex r1) (fun v s₂ ⟨k2,r2⟩=>⟨Keeps.trans' k1 k2,r2⟩) fun _ _ e=>e⟩) fun _ _ e=>e)) hd)
theorem few_plain {pos : Pos} {es : List Expr} {ds : List PyData} (h : PEs prog w K mg mb A env ρ es ds) : (backTo pos (starEach es env)).all (fun x=>!x.1) = true:=by
  have z:=any_plain (pos:=pos) h
  rw [List.any_eq_false] at z
  rw [List.all_eq_true]
  intro x hx
  have:=z x hx
  simpa using this
theorem pe_methL {o : Expr} {name : Str} {id : String} {xs : List PyData} {es : List Expr} {ds : List PyData} {d : PyData} (apos pos : Pos) (slot : Slot "list" name id) (hty : typeOf (.builtin id) = pure (.type "method_descriptor"))
    (ho : PE prog w K mg mb A env ρ o (.list xs)) (hc : CC prog w K mg mb A (.builtin id) (.list xs :: ds) d) (h : PEs prog w K mg mb A env ρ es ds)
    (hbase : attributeBase o name env (eval o env) = eval o env:=by rfl) (hline : (apos.endLine == pos.line) = true:=by rfl) (hn : es.length < 20:=by decide) :
    PE prog w K mg mb A env ρ (.Call (.Attribute o name apos) es [] pos) d:=fun E s mt S=>by
  refine wpAny_Call_method hbase ?_ hline PySem.F.plainAttrs_list slot hty (wpAny_mono (ho E s mt S) (fun v s₁ ⟨k1,r1⟩=>?_) fun _ _ e=>e)
  · rw [few_plain h,Bool.true_and]
    show (true && decide (es.length + 0 + 0 < 30)) = true
    rw [Bool.true_and,decide_eq_true_eq]; lia
  · refine hideG fun zD zhD=>?_
    refine e2a4 r1.list_inv fun a vs zr288 hn hl rs=>?_
    subst zr288
    refine zhD ?_
    clear zhD zD
    refine ⟨hl.isList.typeIs,fun b hb=>?_,callWith_builtin (any_plain h) (wpAny_mono (pe_args h (S.keeps k1)) (fun a' s₂ ⟨e,k2,r2⟩=>?_) fun _ _ e=>e)⟩
    · cases hb; obtain ⟨n,ho⟩:=hl; exact ⟨_,ho,rfl⟩
    · rw [e]
      have k:=Keeps.trans' k1 k2
      exact wpAny_mono (hc E s₂ mt (.ref a :: a'.pos) (S.keeps k).gl (S.keeps k).mex (.cons (r1.ext (Keeps.ext k2)) r2)) (fun v s₃ ⟨k3,r3⟩=>⟨Keeps.trans' k k3,r3⟩) fun _ _ e=>e
end
section
variable {prog : Program} {w : World} {K : Frag} {mg mb : Str→Option Value} {A : Around}
theorem cc_len {ds : List PyData} (hz : (ds.length : Int) < 2 ^ 63) : CC prog w K mg mb A (.builtin "len") [.list ds] (.int ds.length):=fun E s mt vs _ _ r=>by
  refine e2a3 r.cons_inv fun v vs' zr289 r1 r2=>?_
  subst zr289
  obtain rfl:=r2.nil_inv
  refine e2a4 r1.list_inv fun a ws zr290 hn hl rs=>?_
  subst zr290
  refine len_list hl.isList (by simp [rs.length]; exact hz) ?_
  simp only [List.size_toArray,rs.length]
  exact ⟨Keeps.tok _,.int _ _⟩
end
end Mine
namespace Mine
open PySem PySem.W PyProof.Rows PySem.Calls
section
variable {prog : Program} {w : World} {A : Around}
noncomputable def Tgt (prog : Program) (w : World) (A : Around) (cenv : Env) (target : Expr) (d : PyData) (ρt : List (Str × PyData)) : Prop :=
  ∀ (E : Value→Shared→Prop) (Q : Unit→Shared→Prop) (s : Shared) (mt : List Addr) (v : Value) (m : Str→Option Value),s.heap.Ns cenv.locals m→cenv.locals ∈ mt→(∀ a ∈ mt,∃ o,s.heap.get? a = some o)→Rp s.heap mt v d →
    (∀ h' tk m',h'.Ns cenv.locals m'→(∀ b o,b ≠ cenv.locals→s.heap.get? b = some o→h'.get? b = some o)→(∀ x dx,ρt.lookup x = some dx→cenv.kindOf x = some .local∧∃ vx,m' x = some vx∧Rp h' mt vx dx)→Q () { s with heap:=h',toks:=tk }) →
    wpAny (model prog w) A (assign target cenv v) Q E s
theorem rp_but {h h' : Heap} {mt : List Addr} {C : Addr} {v : Value} {d : PyData} (r : Rp h mt v d) (hC : C ∈ mt) (hk : ∀ b o,b ≠ C→h.get? b = some o→h'.get? b = some o) : Rp h' mt v d :=
  r.mono (fun b o hn e=>hk b o (fun q=>hn (q ▸ hC)) e) fun _ hb=>.inl hb
theorem rpA_but {h h' : Heap} {mt : List Addr} {C : Addr} {v : List Value} {d : List PyData} (r : RpA h mt v d) (hC : C ∈ mt) (hk : ∀ b o,b ≠ C→h.get? b = some o→h'.get? b = some o) : RpA h' mt v d :=
  r.mono (fun b o hn e=>hk b o (fun q=>hn (q ▸ hC)) e) fun _ hb=>.inl hb
theorem tgt_name {cenv : Env} {x : Str} {px : Pos} {d : PyData} (hx : cenv.kindOf x = some .local) (hp : (cenv.scope.kind == .class || (cenv.scope.kind == .module && cenv.locals != cenv.globals)) = false) :
    Tgt prog w A cenv (.Name x px) d [(x,d)]:=fun E Q s mt v m hn hC _ r h =>
  wpAny_assign_Name (wpAny_storeName_local hx hn (fun h' hn' hs'=>h h' _ _ hn' hs'.extBut fun y dy hy=>by
    by_cases e : y = x
    · subst e
      rw [List.lookup_cons_self] at hy
      cases hy
      exact ⟨hx,v,by simp,rp_but r hC hs'.extBut⟩
    · rw [List.lookup_cons,show (y == x) = false from by simpa using e] at hy
      cases hy) hp)
theorem tgt_names {cenv : Env} (hp : (cenv.scope.kind == .class || (cenv.scope.kind == .module && cenv.locals != cenv.globals)) = false) :
    ∀ (xs : List (Str × Pos)) (ds : List PyData) (vs : List Value) (E : Value→Shared→Prop) (Q : Unit→Shared→Prop) (s : Shared) (mt : List Addr) (m : Str→Option Value) (ρ₀ : List (Str × PyData)),
      xs.length = ds.length→(∀ x ∈ xs,cenv.kindOf x.1 = some .local)→s.heap.Ns cenv.locals m→cenv.locals ∈ mt→RpA s.heap mt vs ds →
      (∀ x dx,ρ₀.lookup x = some dx→cenv.kindOf x = some .local∧∃ vx,m x = some vx∧Rp s.heap mt vx dx) →
      (∀ h' tk m',h'.Ns cenv.locals m'→(∀ b o,b ≠ cenv.locals→s.heap.get? b = some o→h'.get? b = some o)→(∀ x dx,(((xs.map (·.1)).zip ds).reverse ++ ρ₀).lookup x = some dx→cenv.kindOf x = some .local∧∃ vx,m' x = some vx∧Rp h' mt vx dx)→Q () { s with heap:=h',toks:=tk }) →
      wpAny (model prog w) A (assignInOrder ((assignEach (xs.map fun x=>.Name x.1 x.2) cenv).map (·.2)) vs) Q E s
  | [],ds,vs,E,Q,s,mt,m,ρ₀,hl,_,hn,_,r,h0,h=>by
    cases ds with
    | nil =>
      obtain rfl:=r.nil_inv
      exact wpAny_pure (h s.heap s.toks m hn (fun _ _ _ e=>e) h0)
    | cons=>simp at hl
  | (x,px) :: xs,ds,vs,E,Q,s,mt,m,ρ₀,hl,hx,hn,hC,r,h0,h=>by
    cases ds with
    | nil=>simp at hl
    | cons d ds =>
      refine e2a3 r.cons_inv fun v vs' zr291 r1 r2=>?_
      subst zr291
      show wpAny (model prog w) A (holding vs' (assign (.Name x px) cenv v) >>= fun _=>assignInOrder ((assignEach (xs.map fun x=>.Name x.1 x.2) cenv).map (·.2)) vs') Q E s
      refine wpAny_bind (wpAny_holding (wpAny_assign_Name (wpAny_storeName_local (hx (x,px) (.head _)) hn (fun h₁ hn₁ hs₁=>?_) hp)))
      refine tgt_names hp xs ds vs' E Q { s with heap:=h₁,toks:=s.toks + 1 } mt _ ((x,d) :: ρ₀) (by simpa using hl) (fun y hy=>hx y (.tail _ hy)) hn₁ hC (rpA_but r2 hC hs₁.extBut) ?_ ?_
      · intro y dy hy
        by_cases e : y = x
        · subst e
          rw [List.lookup_cons_self] at hy
          cases hy
          exact ⟨hx (y,px) (.head _),v,by simp,rp_but r1 hC hs₁.extBut⟩
        · rw [List.lookup_cons,show (y == x) = false from by simpa using e] at hy
          refine e0a2 (h0 y dy hy) fun hk zt292=>?_
          refine e1a2 zt292 fun vx hm hr=>?_
          exact ⟨hk,vx,by simp [e,hm],rp_but hr hC hs₁.extBut⟩
      · intro h' tk m' hn' hk' hv'
        refine h h' tk m' hn' (fun b o hb e=>hk' b o hb (hs₁.extBut b o hb e)) fun y dy hy=>hv' y dy ?_
        simpa using hy
theorem assignEach_len (cenv : Env) : ∀ xs : List (Str × Pos),(assignEach (xs.map fun x=>.Name x.1 x.2) cenv).length = xs.length
  | []=>rfl
  | _ :: xs=>by show (assignEach (xs.map fun x=>.Name x.1 x.2) cenv).length + 1 = _; rw [assignEach_len cenv xs]; rfl
theorem assignEach_star (cenv : Env) : ∀ xs : List (Str × Pos),∀ p ∈ assignEach (xs.map fun x=>.Name x.1 x.2) cenv,p.1 = false
  | [],_,h=>by cases h
  | (x,px) :: xs,p,h=>by
    rcases List.mem_cons.mp h with rfl | h
    · rfl
    · exact assignEach_star cenv xs p h
theorem tgt_tuple {cenv : Env} {xs : List (Str × Pos)} {ds : List PyData} {k : Nat} {pos : Pos} (hh : A.handled = none) (hl : xs.length = ds.length) (hx : ∀ x ∈ xs,cenv.kindOf x.1 = some .local)
    (hp : (cenv.scope.kind == .class || (cenv.scope.kind == .module && cenv.locals != cenv.globals)) = false) :
    Tgt prog w A cenv (.Tuple (xs.map fun x=>.Name x.1 x.2) k pos) (.tuple ds) ((xs.map (·.1)).zip ds).reverse:=fun E Q s mt v m hn hC hex r h=>by
  refine e3a4 r.tuple_inv fun a vs n zr293 ha ho rs=>?_
  subst zr293
  have hsz : vs.length = ds.length:=rs.length
  refine wpAny_assign_Tuple hh (tup_is ho) (by rw [assignEach_len]; simp [hsz,hl]) ?_ fun h₁ he₁=>?_
  · rw [List.findIdx?_eq_none_iff]
    intro p hp'
    rw [assignEach_star cenv xs p hp']
  · have hold : ∀ b o,s.heap.get? b = some o→h₁.get? b = some o:=fun b o e=>he₁ b o (Nat.ne_of_lt (Heap.lt_size e)) e
    refine tgt_names hp xs ds vs E Q { s with heap:=h₁ } mt m [] hl hx (hn.keeps hold) hC (rs.ext hold) (fun x dx hx=>by cases hx) ?_
    intro h' tk m' hn' hk' hv'
    exact h h' tk m' hn' (fun b o hb e=>hk' b o hb (hold b o e)) fun y dy hy=>hv' y dy (by simpa using hy)
end
end Mine
namespace Mine
open PySem PySem.W PyProof.Rows PySem.Calls
noncomputable def SrcAt (prog : Program) (w : World) (A : Around) (ds : List PyData) (mt : List Addr) (s s₂ : Shared) (it : Value) : Prop :=
  ∃ (I : Addr) (fp wr : List Addr) (P : Nat→Value→Prop) (St : Nat→Heap→Prop),it = .ref I∧Walks prog w A I fp wr ds.length P St∧St 0 s₂.heap∧(∀ b ∈ fp,b < s₂.heap.objs.size)∧(∀ b ∈ wr,s.heap.get? b = none) ∧
    (∀ i v,i < ds.length→P i v→∃ d,ds[i]? = some d∧Rp s₂.heap (wr ++ mt) v d) ∧
    (∀ i tg v (s' : Shared) (Q : Unit→Shared→Prop) (E : Value→Shared→Prop),St i s'.heap→Q () s'→wpAny (model prog w) A (letOwnedTupleGo tg (.ref I) v) Q E s') ∧
    (∀ i h,St i h→∀ b ∈ wr,∃ o,h.get? b = some o)∧(∀ b ∈ fp,b ∉ mt)
noncomputable def Src (prog : Program) (w : World) (K : Frag) (mg mb : Str→Option Value) (A : Around) (env : Env) (ρ : List (Str × PyData)) (iter : Expr) (ds : List PyData) : Prop :=
  ∀ (E : Value→Shared→Prop) (s : Shared) (mt : List Addr),Sv K mg mb env mt ρ s →
    wpAny (model prog w) A (eval iter env) (fun xv s₁=>wpAny (model prog w) A (pyIter xv) (fun it s₂=>Keeps s s₂∧SrcAt prog w A ds mt s s₂ it) E s₁) E s
noncomputable def SrcHere (prog : Program) (w : World) (A : Around) (env : Env) (iter : Expr) (ds : List PyData) (mt : List Addr) (s : Shared) : Prop :=
  ∀ (E : Value→Shared→Prop),wpAny (model prog w) A (eval iter env) (fun xv s₁=>wpAny (model prog w) A (pyIter xv) (fun it s₂=>Keeps s s₂∧SrcAt prog w A ds mt s s₂ it) E s₁) E s
theorem lot_plain {prog : Program} {w : World} {A : Around} {tg : Expr} {I : Addr} {v : Value} {s : Shared} {Q : Unit→Shared→Prop} {E : Value→Shared→Prop} {T : String} {o : Obj}
    (ho : s.heap.get? I = some o) (hc : o.cls = .type T)
    (hT : ["enumerate","zip","dict_itemiterator","dict_reverseitemiterator","odict_iterator","itertools.zip_longest","itertools.pairwise"].contains T = false) (h : Q () s) :
    wpAny (model prog w) A (letOwnedTupleGo tg (.ref I) v) Q E s:=by
  obtain ⟨cls,dd,data,sl⟩:=o
  simp only at hc
  subst hc
  unfold letOwnedTupleGo
  split
  all_goals first
    | exact wpAny_pure h
    | (split
       · rename_i r a heq
         refine e0a2 (Prod.mk.inj heq) fun e1 e2=>?_
         cases e1
         cases e2
         refine wpAny_bind (wpAny_load ho ?_)
         cases data <;> simp only [hT,Bool.false_and,Bool.false_eq_true,if_false] <;> exact wpAny_pure h
       · exact wpAny_pure h)
section
variable {prog : Program} {w : World} {K : Frag} {mg mb : Str→Option Value} {A : Around} {env : Env} {ρ : List (Str × PyData)}
theorem srcAt_list {iter : Expr} {ds : List PyData} {E : Value→Shared→Prop} {s : Shared} {mt : List Addr} (hh : A.handled = none) (S : Sv K mg mb env mt ρ s) (h : wpAny (model prog w) A (eval iter env) (fun v s'=>Keeps s s'∧Rp s'.heap mt v (.list ds)) E s) :
    wpAny (model prog w) A (eval iter env) (fun xv s₁=>wpAny (model prog w) A (pyIter xv) (fun it s₂=>Keeps s s₂∧SrcAt prog w A ds mt s s₂ it) E s₁) E s :=
  wpAny_mono h (fun v s₁ ⟨k1,r1⟩=>by
    refine e2a4 r1.list_inv fun a vs zr33 hn hl rs=>?_
    subst zr33
    have hne : a ≠ s₁.heap.objs.size:=by obtain ⟨n,e⟩:=hl; exact Nat.ne_of_lt (Heap.lt_size e)
    have W:=Walks.list (prog:=prog) (w:=w) hh s₁.heap.objs.size a hne vs.toArray
    have hsz : vs.toArray.size = ds.length:=by simp [rs.length]
    rw [hsz] at W
    refine wpAny_pyIter_list hl.isList ⟨Keeps.trans' k1 (Keeps.push _),s₁.heap.objs.size,[s₁.heap.objs.size,a],[s₁.heap.objs.size],_,_,rfl,W,⟨⟨_,Heap.get?_push_size _ rfl,rfl,rfl⟩,hl.isList.push _⟩,?_,?_,?_,?_,?_,?_⟩
    · intro b hb
      rw [Heap.size_push]
      rcases List.mem_cons.mp hb with rfl | hb
      · exact Nat.lt_succ_self _
      · rcases List.mem_cons.mp hb with rfl | hb
        · obtain ⟨n,e⟩:=hl; exact Nat.lt_succ_of_lt (Heap.lt_size e)
        · cases hb
    · intro b hb
      rcases List.mem_cons.mp hb with rfl | hb
      · cases e : s.heap.get? s₁.heap.objs.size with
        | none=>rfl
        | some o=>exact absurd (Heap.lt_size (Keeps.ext k1 _ _ e)) (Nat.lt_irrefl _)
      · cases hb
    · intro i v _ hv
      refine e1a2 (rs.get' (i:=i) (v:=v) (by simpa using hv)) fun d hd hr=>?_
      refine ⟨d,hd,?_⟩
      have hr' : Rp s₁.heap (s₁.heap.objs.size :: mt) v d:=hr.hide fun b hb=>by
        rcases List.mem_cons.mp hb with rfl | hb
        · right
          cases e : s₁.heap.get? s₁.heap.objs.size with
          | none=>rfl
          | some o=>exact absurd (Heap.lt_size e) (Nat.lt_irrefl _)
        · exact .inl hb
      exact hr'.ext fun _ _ e=>Heap.get?_push_of_some _ e
    · intro i tg v s' Q E' hst hQ
      refine e1a3 hst.1 fun o ho hc _=>?_
      exact lot_plain ho hc (by decide) hQ
    · intro i h hst b hb
      rcases List.mem_cons.mp hb with rfl | hb
      · obtain ⟨o,ho,_⟩:=hst.1; exact ⟨o,ho⟩
      · cases hb
    · intro b hb
      rcases List.mem_cons.mp hb with rfl | hb
      · exact (S.keeps k1).new
      · rcases List.mem_cons.mp hb with rfl | hb
        · exact hn
        · cases hb) fun _ _ e=>e
theorem src_list {iter : Expr} {ds : List PyData} (hh : A.handled = none) (h : PE prog w K mg mb A env ρ iter (.list ds)) : Src prog w K mg mb A env ρ iter ds:=fun E s mt S =>
  srcAt_list hh S (h E s mt S)
theorem src_tuple {iter : Expr} {ds : List PyData} (hh : A.handled = none) (h : PE prog w K mg mb A env ρ iter (.tuple ds)) : Src prog w K mg mb A env ρ iter ds:=fun E s mt S =>
  wpAny_mono (h E s mt S) (fun v s₁ ⟨k1,r1⟩=>by
    refine e3a4 r1.tuple_inv fun a vs n zr34 hn hl rs=>?_
    subst zr34
    have hne : a ≠ s₁.heap.objs.size:=Nat.ne_of_lt (Heap.lt_size hl)
    have W:=Walks.tuple (prog:=prog) (w:=w) hh s₁.heap.objs.size a hne vs.toArray
    have hsz : vs.toArray.size = ds.length:=by simp [rs.length]
    rw [hsz] at W
    refine wpAny_pyIter_tuple (tup_is hl) ⟨Keeps.trans' k1 (Keeps.push _),s₁.heap.objs.size,[s₁.heap.objs.size,a],[s₁.heap.objs.size],_,_,rfl,W,⟨⟨_,Heap.get?_push_size _ rfl,rfl,rfl⟩,Heap.IsTuple.push (tup_is hl) _⟩,?_,?_,?_,?_,?_,?_⟩
    · intro b hb
      rw [Heap.size_push]
      rcases List.mem_cons.mp hb with rfl | hb
      · exact Nat.lt_succ_self _
      · rcases List.mem_cons.mp hb with rfl | hb
        · exact Nat.lt_succ_of_lt (Heap.lt_size hl)
        · cases hb
    · intro b hb
      rcases List.mem_cons.mp hb with rfl | hb
      · cases e : s.heap.get? s₁.heap.objs.size with
        | none=>rfl
        | some o=>exact absurd (Heap.lt_size (Keeps.ext k1 _ _ e)) (Nat.lt_irrefl _)
      · cases hb
    · intro i v _ hv
      refine e1a2 (rs.get' (i:=i) (v:=v) (by simpa using hv)) fun d hd hr=>?_
      refine ⟨d,hd,?_⟩
      have hr' : Rp s₁.heap (s₁.heap.objs.size :: mt) v d:=hr.hide fun b hb=>by
        rcases List.mem_cons.mp hb with rfl | hb
        · right
          cases e : s₁.heap.get? s₁.heap.objs.size with
          | none=>rfl
          | some o=>exact absurd (Heap.lt_size e) (Nat.lt_irrefl _)
        · exact .inl hb
      exact hr'.ext fun _ _ e=>Heap.get?_push_of_some _ e
    · intro i tg v s' Q E' hst hQ
      refine e1a3 hst.1 fun o ho hc _=>?_
      exact lot_plain ho hc (by decide) hQ
    · intro i h hst b hb
      rcases List.mem_cons.mp hb with rfl | hb
      · obtain ⟨o,ho,_⟩:=hst.1; exact ⟨o,ho⟩
      · cases hb
    · intro b hb
      rcases List.mem_cons.mp hb with rfl | hb
      · exact (S.keeps k1).new
      · rcases List.mem_cons.mp hb with rfl | hb
        · exact hn
        · cases hb) fun _ _ e=>e
theorem src_range {e : Expr} {p pos : Pos} {n : Nat} (hh : A.handled = none) (hk : env.kindOf "range" = some .globalImplicit) (hg : mg "range" = none) (hb : mb "range" = some (.type "range")) (h : PE prog w K mg mb A env ρ e (.int n)) (hn : n < 2 ^ 62)
    (he : ∀ rest,starEach (e :: rest) env = (false,eval e env) :: starEach rest env) :
    Src prog w K mg mb A env ρ (.Call (.Name "range" p) [e] [] pos) ((List.range n).map fun i=>.int (i : Nat)):=fun E s mt S=>by
  refine Call_Name rfl (nm_b S hk hg hb (PyProof.Rows.callWith_type (any_plain (.cons h he .nil)) (wpAny_mono (pe_args (.cons h he .nil) S) (fun a s₁ ⟨ek,k1,r1⟩=>?_) fun _ _ e=>e)))
  obtain ⟨pos',kw⟩:=a
  simp only at ek r1
  subst ek
  refine e2a3 r1.cons_inv fun v vs' zr35 r2 r3=>?_
  subst zr35
  obtain rfl:=r3.nil_inv
  refine e1a1 r2.int_inv fun t zr36=>?_
  subst zr36
  refine call_range_1 ?_
  refine wpAny_pyIter_range (IsRange.new ..) (small_one (by decide) (by decide) (by lia) (by lia)) ?_
  have hsz : Builtin.Range.rangeSize 0 n 1 = ((n : Nat) : Int):=by rw [rangeSize_one]; split <;> lia
  refine genE (s₁.heap.push { cls:=.type "range",data:=.fields #[.int 0 s₁.toks,.int n t,.int 1 (s₁.toks + 1)] }) fun H1 hH1=>?_
  have hk1 : ∀ b o,s₁.heap.get? b = some o→H1.get? b = some o:=fun b o e=>hH1 ▸ Heap.get?_push_of_some _ e
  have hs1 : H1.objs.size = s₁.heap.objs.size + 1:=by rw [← hH1,Heap.size_push]
  have hnew : ∀ b o,s.heap.get? b = some o→b < s₁.heap.objs.size:=fun b o e=>Heap.lt_size (Keeps.ext k1 _ _ e)
  have W:=(Walks.range (prog:=prog) (w:=w) hh H1.objs.size 0 1 n)
  have hlen : ((List.range n).map fun i=>PyData.int (i : Nat)).length = n:=by simp
  rw [← hlen] at W
  refine ⟨Keeps.trans' k1 (Keeps.of fun b o e=>Heap.get?_push_of_some _ (hk1 b o e)),H1.objs.size,[H1.objs.size],[H1.objs.size],_,_,rfl,W,?_,?_,?_,?_,?_,?_,?_⟩
  · rw [hlen]
    have e1 : (0 + ((0 : Nat) : Int) * 1) = 0:=by simp
    have e2 : ((n : Int) - ((0 : Nat) : Int)) = Builtin.Range.rangeSize 0 n 1:=by rw [hsz]; simp
    rw [e1,e2]
    exact Heap.get?_push_size _ rfl
  · intro b hb
    rcases List.mem_cons.mp hb with rfl | hb
    · show _ < (H1.push _).objs.size; rw [Heap.size_push]; exact Nat.lt_succ_self _
    · cases hb
  · intro b hb
    rcases List.mem_cons.mp hb with rfl | hb
    · cases e : s.heap.get? H1.objs.size with
      | none=>rfl
      | some o=>exact absurd (hnew _ _ e) (by show ¬ H1.objs.size < _; rw [hs1]; exact Nat.not_lt.mpr (Nat.le_succ _))
    · cases hb
  · intro i v hi hv
    rw [hlen] at hi
    refine e1a1 hv fun t' zr37=>?_
    subst zr37
    refine ⟨.int (i : Nat),by simp [hi],?_⟩
    have : (0 : Int) + (i : Int) * 1 = i:=by simp
    rw [this]
    exact .int _ _
  · intro i tg v s' Q E' hst hQ
    exact lot_plain hst rfl (by decide) hQ
  · intro i h hst b hb
    rcases List.mem_cons.mp hb with rfl | hb
    · exact ⟨_,hst⟩
    · cases hb
  · intro b hb
    rcases List.mem_cons.mp hb with rfl | hb
    · intro hm
      refine e1a1 (S.mex _ hm) fun o e=>?_
      exact absurd (hnew _ _ e) (by show ¬ H1.objs.size < _; rw [hs1]; exact Nat.not_lt.mpr (Nat.le_succ _))
    · cases hb
theorem Src.here {iter : Expr} {ds : List PyData} {mt : List Addr} {s : Shared} (h : Src prog w K mg mb A env ρ iter ds) (S : Sv K mg mb env mt ρ s) : SrcHere prog w A env iter ds mt s:=fun E=>h E s mt S
end
end Mine
namespace Mine
open PySem PySem.W PyProof.Rows PySem.Calls
noncomputable def FreeOk (env : Env) (scope : Scope) (cl : List (Str × Addr)) (ρ : List (Str × PyData)) : List (Str × PyData)→Prop
  | []=>True
  | (x,d) :: r=>(ρ.lookup x = some d∧(env.kindOf x = some .cell ∨ env.kindOf x = some .free)∧((relabel scope env).names.lookup x = some .cell ∨ (relabel scope env).names.lookup x = some .free) ∧
      cl.lookup x = env.cells.lookup x∧(x == ("__classdict__" : Str)) = false)∧FreeOk env scope cl ρ r
theorem FreeOk.get {env : Env} {scope : Scope} {cl : List (Str × Addr)} {ρ : List (Str × PyData)} : ∀ {l : List (Str × PyData)},FreeOk env scope cl ρ l→∀ {x : Str} {d : PyData},l.lookup x = some d →
    ρ.lookup x = some d∧(env.kindOf x = some .cell ∨ env.kindOf x = some .free)∧((relabel scope env).names.lookup x = some .cell ∨ (relabel scope env).names.lookup x = some .free) ∧
      cl.lookup x = env.cells.lookup x∧(x == ("__classdict__" : Str)) = false
  | [],_,x,d,e=>by cases e
  | (y,dy) :: r,h,x,d,e=>by
    by_cases q : x = y
    · subst q
      rw [List.lookup_cons_self] at e
      cases e
      exact h.1
    · rw [List.lookup_cons,show (x == y) = false from by simpa using q] at e
      exact h.2.get e
noncomputable def PTs (prog : Program) (w : World) (K : Frag) (mg mb : Str→Option Value) (A : Around) (env : Env) (ρ : List (Str × PyData)) : List Expr→Bool→Prop
  | [],b=>b = true
  | [c],b=>PT prog w K mg mb A env ρ c b
  | _,_=>False
section
variable {prog : Program} {w : World} {K : Frag} {mg mb : Str→Option Value} {A : Around} {env : Env} {ρ : List (Str × PyData)}
theorem pts_run {ifs : List Expr} {b : Bool} (h : PTs prog w K mg mb A env ρ ifs b) {E : Value→Shared→Prop} {s : Shared} {mt : List Addr} (S : Sv K mg mb env mt ρ s) :
    wpAny (model prog w) A (forIn ifs true fun c r=>if r = true then do let ok ← isTrue c env (eval c env); pure (ForInStep.yield ok) else pure (ForInStep.yield r)) (fun r s'=>r = b∧Keeps s s') E s:=by
  match ifs,h with
  | [],h=>exact wpAny_tests_nil ⟨h.symm,Keeps.rfl'⟩
  | [c],h=>exact wpAny_tests_one (h E s mt S)
theorem cmp_loop {elt target iter : Expr} {ifs : List Expr} {scope : Scope} {pos : Pos} {it acc : Value} {cenv : Env} {R : Result→Shared→Prop} {s : Shared} (I : Nat→Shared→Prop)
    (turn : ∀ n s,I n s→wpAny (model prog w) A (pyNext it) (fun r s₁=>match r with
      | none=>R (.ok .next) s₁
      | some v=>wpAny (model prog w) A (letOwnedTupleGo target it v) (fun _ s₁'=>wpAny (model prog w) A (assign target cenv v) (fun _ s₂ =>
          wpAny (model prog w) A (forIn ifs true fun c r=>if r = true then do let ok ← isTrue c cenv (eval c cenv); pure (ForInStep.yield ok) else pure (ForInStep.yield r)) (fun ok s₃ =>
            if ok = true then wpAny (model prog w) A (eval elt cenv) (fun x s₄ =>
              wpAny (model prog w) A (call (.builtin "list.append") [acc,x]) (fun _ s₅=>∃ m,m < n∧I m s₅) (fun _ _=>False) s₄) (fun _ _=>False) s₃
            else ∃ m,m < n∧I m s₃) (fun _ _=>False) s₂) (fun _ _=>False) s₁') (fun _ _=>False) s₁) (fun _ _=>False) s)
    (n : Nat) (h : I n s) : codeAny (model prog w) A (.compLoop (.ListComp elt [⟨target,iter,ifs,0⟩] scope pos) 0 it acc cenv) R s:=by
  refine codeAny_loop rfl I (fun n s hI=>?_) n h
  show wpAny _ A ((compTurn (.ListComp elt [⟨target,iter,ifs,0⟩] scope pos) 0 it acc cenv).onRaise (fun x=>do noteFrame x cenv; theTreesLotGoes x)) _ _ s
  refine wpAny_noted ?_
  rw [compTurn_list]
  refine wpAny_bind (wpAny_standAt (wpAny_bind (wpAny_mono (turn n s hI) (fun r s₁ h₁=>?_) fun _ _ f=>f.elim)))
  cases r with
  | none=>exact wpAny_pure h₁
  | some v =>
    refine wpAny_bind (wpAny_mono h₁ (fun _ s₁' h₁'=>?_) fun _ _ f=>f.elim)
    refine wpAny_bind (wpAny_mono h₁' (fun _ s₂ h₂=>wpAny_bind (wpAny_mono h₂ (fun ok s₃ h₃=>?_) fun _ _ f=>f.elim)) fun _ _ f=>f.elim)
    cases ok with
    | false=>exact wpAny_pure ⟨rfl,h₃⟩
    | true =>
      exact wpAny_bind (wpAny_bind (wpAny_mono h₃ (fun x s₄ h₄=>wpAny_bind (wpAny_mono h₄ (fun _ s₅ h₅=>wpAny_pure (wpAny_pure ⟨rfl,h₅⟩)) fun _ _ f=>f.elim)) fun _ _ f=>f.elim))
theorem comp_core {elt target iter : Expr} {ifs : List Expr} {scope : Scope} {pos : Pos} {cl : List (Str × Addr)} {ds : List PyData} {bd : PyData→List (Str × PyData)} {ρf : List (Str × PyData)} {mt : List Addr} {s0 s₂ : Shared} {it : Value} {E : Value→Shared→Prop}
    (p : PyData→Bool) (f : PyData→PyData) {RR : Value→Addr→Result→Shared→Prop}
    (S : Sv K mg mb env mt ρ s0) (k0 : Keeps s0 s₂) (hsrc : SrcAt prog w A ds mt s0 s₂ it)
    (hcell : ∀ y ∈ scope.names,y.2 ≠ .cell) (hkind : scope.kind = .function) (hfree : FreeOk env scope cl ρ ρf)
    (htgt : ∀ C d,d ∈ ds→Tgt prog w A (compEnvC scope cl C env) target d (bd d))
    (htest : ∀ C d,d ∈ ds→PTs prog w K mg mb A (compEnvC scope cl C env) (bd d ++ ρf) ifs (p d))
    (helt : ∀ C d,d ∈ ds→p d = true→PE prog w K mg mb A (compEnvC scope cl C env) (bd d ++ ρf) elt (f d))
    (hz : ds.length ≤ sizeLine)
    (hRR : ∀ D C h' tk m' ys,s₂.heap.get? D = none→s₂.heap.get? C = none→D ≠ C→h'.Ns C m'→h'.PlainList D ys.toArray→RpA h' (C :: D :: mt) ys ((ds.filter p).map f) →
      (∀ b o,s0.heap.get? b = some o→h'.get? b = some o)→RR (.ref D) C (.ok .next) { s₂ with heap:=h',toks:=tk }) :
    wpAny (model prog w) A (newList []) (fun acc s₃=>wpAny (model prog w) A (newFunctionEnv scope env.globals cl [] env.qual none .none (some env)) (fun cenv s₄ =>
      codeAny (model prog w) A (.compStart (.ListComp elt [⟨target,iter,ifs,0⟩] scope pos) 0 it acc { cenv with scope:=relabel scope env }) (RR acc cenv.locals) s₄) E s₃) E s₂:=by
  refine hideG fun zD zhD=>?_
  refine e5a9 hsrc fun I fp wr P St zr385 W hst hfp hwr hP hlot hwex _=>?_
  subst zr385
  refine zhD ?_
  clear zhD zD
  refine wpAny_newObj_type (wpAny_newFunctionEnv hcell (by intro y hy; simp at hy) (fun h₁ hns₁ hsb₁=>?_) hkind)
  dsimp only at hns₁ hsb₁ ⊢
  revert hsb₁
  revert hns₁
  refine genE (s₂.heap.push { cls:=.type "list",dict:=none,data:=.seq ([] : List Value).toArray }) fun H2 hH2 hns₁ hsb₁=>?_
  have hC : H2.objs.size = s₂.heap.objs.size + 1:=by rw [← hH2,Heap.size_push]
  revert hC
  refine genE (s₂.heap.objs.size) fun D hDd hC=>?_
  revert hsb₁
  revert hns₁
  revert hC
  refine genE (H2.objs.size) fun C hCd hC hns₁ hsb₁=>?_
  have hDC : D ≠ C:=by lia
  have lt2 : ∀ (b : Nat) o,s₂.heap.get? b = some o→b < D:=fun b o e=>hDd ▸ Heap.lt_size e
  have old : ∀ b o,s₂.heap.get? b = some o→h₁.get? b = some o:=fun b o e =>
    hsb₁.extBut b o (Nat.ne_of_lt (by have:=lt2 b o e; lia)) (Heap.get?_push_of_some _ (hH2 ▸ Heap.get?_push_of_some _ e))
  have hacc : h₁.get? D = some { cls:=.type "list",data:=.seq ([] : List Value).toArray }:=hsb₁.extBut _ _ hDC (Heap.get?_push_of_some _ (by rw [← hH2,← hDd]; exact Heap.get?_push_size _ rfl))
  have hDf : D ∉ fp:=fun hm=>Nat.lt_irrefl _ (hDd ▸ hfp _ hm)
  have hCf : C ∉ fp:=fun hm=>by have : (C : Nat) < s₂.heap.objs.size:=hfp _ hm; lia
  have hDw : D ∉ wr:=fun h=>hDf (W.sub _ h)
  have hCw : C ∉ wr:=fun h=>hCf (W.sub _ h)
  have fresh2 : ∀ a,D ≤ a→s₂.heap.get? a = none:=fun a ha=>by
    cases e : s₂.heap.get? a with
    | none=>rfl
    | some o'=>exact absurd (lt2 a o' e) (Nat.not_lt.mpr ha)
  have lt0 : ∀ b o,s0.heap.get? b = some o→b ≠ C∧b ≠ D∧b ∉ wr:=fun b o e=>by
    have:=lt2 b o (Keeps.ext k0 _ _ e)
    refine ⟨Nat.ne_of_lt (by lia),Nat.ne_of_lt this,fun hb=>?_⟩
    rw [hwr b hb] at e; cases e
  refine genE (C :: D :: (wr ++ mt)) fun mX hmX=>?_
  have hCX : C ∈ mX:=hmX ▸ .head _
  have hDX : D ∈ mX:=hmX ▸ .tail _ (.head _)
  have hwX : ∀ b ∈ wr,b ∈ mX:=fun b hb=>hmX ▸ .tail _ (.tail _ (List.mem_append.mpr (.inl hb)))
  have hmtX : ∀ b ∈ mt,b ∈ mX:=fun b hb=>hmX ▸ .tail _ (.tail _ (List.mem_append.mpr (.inr hb)))
  have hXc : ∀ b ∈ mX,b = C ∨ b = D ∨ b ∈ wr ∨ b ∈ mt:=fun b hb=>by
    rw [← hmX] at hb
    rcases List.mem_cons.mp hb with h | hb
    · exact .inl h
    · rcases List.mem_cons.mp hb with h | hb
      · exact .inr (.inl h)
      · exact .inr (.inr (List.mem_append.mp hb))
  have hX0 : ∀ b ∈ mX,b ∈ mt ∨ s0.heap.get? b = none:=fun b hb=>by
    rcases hXc b hb with rfl | rfl | h | h
    · right
      cases e : s0.heap.get? b with
      | none=>rfl
      | some o=>exact absurd rfl (lt0 _ _ e).1
    · right
      cases e : s0.heap.get? b with
      | none=>rfl
      | some o=>exact absurd rfl (lt0 _ _ e).2.1
    · exact .inr (hwr b h)
    · exact .inl h
  have hXP : ∀ b ∈ mX,b ∈ wr ++ mt ∨ s₂.heap.get? b = none:=fun b hb=>by
    rcases hXc b hb with rfl | rfl | h | h
    · exact .inr (fresh2 _ (by lia))
    · exact .inr (fresh2 _ (Nat.le_refl _))
    · exact .inl (List.mem_append.mpr (.inl h))
    · exact .inl (List.mem_append.mpr (.inr h))
  have loop : ∀ s₃ : Shared,s₃ = { s₂ with heap:=h₁,toks:=s₂.toks + ([] : List (Str × Value)).length } →
      codeAny (model prog w) A (.compLoop (.ListComp elt [⟨target,iter,ifs,0⟩] scope pos) 0 (.ref I) (.ref D) (compEnvC scope cl C env)) (RR (.ref D) C) s₃:=by
    rintro s₃ rfl
    refine hideG fun zD zhD=>?_
    obtain ⟨JI,hJI⟩ : ∃ JI : Nat→Shared→Prop,∀ k s',JI k s' ↔ ∃ h' tk m' ys i n',s' = { s₂ with heap:=h',toks:=tk }∧St i h'∧h'.get? D = some { cls:=.type "list",data:=.seq (ys : List Value).toArray n' }∧h'.Ns C m' ∧
      RpA h' mX ys (((ds.take i).filter p).map f)∧i ≤ ds.length∧k = ds.length + 1 - i∧(∀ b o,b ≠ C→b ∉ wr→b ≠ D→s₂.heap.get? b = some o→h'.get? b = some o):=⟨_,fun _ _=>Iff.rfl⟩
    refine zhD ?_
    clear zhD zD
    refine cmp_loop JI ?_ (ds.length + 1) ((hJI _ _).2 ⟨h₁,_,_,[],0,0,rfl,W.frame _ _ _ hst fun b _ o e=>old b o e,hacc,hns₁,by simpa using RpA.nil,Nat.zero_le _,rfl,fun b o _ _ _ e=>old b o e⟩)
    rintro k s' zhX
    refine hideG fun zD zhD=>?_
    refine e6a8 ((hJI _ _).1 zhX) fun H tk m' ys i n' zr386 hst' hacc' hn' hF hi zr387 hk=>?_
    subst zr386
    subst zr387
    refine zhD ?_
    clear zhD zD
    have hylen : ys.length ≤ ds.length:=by
      rw [hF.length,List.length_map]
      refine Nat.le_trans (List.length_filter_le _ _) ?_
      rw [List.length_take]; exact Nat.min_le_right _ _
    by_cases hlt : i < ds.length
    · refine W.item i _ _ _ hlt hst' fun v h₂ tk₂ hPv hst₂ hk₂=>?_
      refine hideQE fun QL EL hQL hEL=>?_
      refine hideG fun zD zhD=>?_
      refine e1a2 (hP i v hlt hPv) fun d hd hrv=>?_
      refine zhD ?_
      clear zhD zD
      have hmem : d ∈ ds:=List.mem_of_getElem? hd
      have kX : ∀ b o,b ∉ mX→s₂.heap.get? b = some o→h₂.get? b = some o:=fun b o hb e =>
        hk₂ b o (fun q=>hb (hwX b q)) (hk b o (fun q=>hb (q ▸ hCX)) (fun q=>hb (hwX b q)) (fun q=>hb (q ▸ hDX)) e)
      have hrv₂ : Rp h₂ mX v d:=(hrv.hide hXP).mono kX fun _ hb=>.inl hb
      have hn₂ : h₂.Ns C m':=hn'.at' fun o e=>hk₂ _ o hCw e
      have hD₂:=hk₂ _ _ hDw hacc'
      have keep₂ : ∀ b o,s0.heap.get? b = some o→h₂.get? b = some o:=fun b o e =>
        let ⟨a1,a2,a3⟩:=lt0 b o e
        hk₂ b o a3 (hk b o a1 a3 a2 (Keeps.ext k0 b o e))
      have ex₂ : ∀ a ∈ mX,∃ o,h₂.get? a = some o:=fun a ha=>by
        rcases hXc a ha with rfl | rfl | h | h
        · obtain ⟨o,_,_,e,_⟩:=hn₂; exact ⟨o,e⟩
        · exact ⟨_,hD₂⟩
        · exact hwex _ _ hst₂ a h
        · obtain ⟨o,e⟩:=S.mex a h; exact ⟨o,keep₂ a o e⟩
      have hF₂ : RpA h₂ mX ys (((ds.take i).filter p).map f):=hF.mono (fun b o hb e=>hk₂ b o (fun q=>hb (hwX b q)) e) fun _ hb=>.inl hb
      refine hlot (i + 1) target v _ _ _ hst₂ ?_
      refine hQL _ _ ?_
      refine hideQE fun QM EM hQM hEM=>?_
      refine htgt C d hmem _ _ _ mX v m' hn₂ hCX ex₂ hrv₂ fun h₃ tk₃ m₃ hn₃ hk₃ hv₃=>?_
      refine hQM _ _ ?_
      have keep₃ : ∀ b o,s0.heap.get? b = some o→h₃.get? b = some o:=fun b o e=>hk₃ b o (lt0 b o e).1 (keep₂ b o e)
      have S₃ : Sv K mg mb (compEnvC scope cl C env) mX (bd d ++ ρf) { s₂ with heap:=h₃,toks:=tk₃ }:=by
        refine ⟨S.gl.ext keep₃,fun x dx hx=>?_,fun a ha=>?_,S.glb,S.blt,hkind⟩
        · rw [List.lookup_append] at hx
          cases hq : (bd d).lookup x with
          | some d' =>
            rw [hq] at hx
            cases hx
            refine hideG fun zD zhD=>?_
            refine e0a2 (hv₃ x _ hq) fun hkx zt388=>?_
            refine e1a2 zt388 fun vx hm hr=>?_
            refine zhD ?_
            clear zhD zD
            exact ⟨vx,⟨hkind,.inl ⟨hkx,m₃,hn₃,hm⟩⟩,hr⟩
          | none =>
            rw [hq,Option.none_or] at hx
            refine hideG fun zD zhD=>?_
            refine e0a5 (hfree.get hx) fun hρ hke hkc hcl hcd=>?_
            refine e1a2 (S.vars x dx hρ) fun vx zs389 hrx=>?_
            refine e0a2 zs389 fun _ hvar=>?_
            refine zhD ?_
            clear zhD zD
            refine ⟨vx,⟨hkind,.inr ⟨?_,?_⟩⟩,hrx.mono (fun b o _ e=>keep₃ b o e) hX0⟩
            · rcases hkc with h | h
              · exact .inl h
              · exact .inr ⟨h,hcd⟩
            · rcases hvar with ⟨hloc,_⟩ | ⟨_,c,hc,hcv⟩
              · rcases hke with h | h <;> rw [h] at hloc <;> cases hloc
              · exact ⟨c,by show cl.lookup x = some c; rw [hcl,hc],hcv.keeps keep₃⟩
        · refine hideG fun zD zhD=>?_
          refine e1a1 (ex₂ a ha) fun o e=>?_
          refine zhD ?_
          clear zhD zD
          by_cases q : a = C
          · subst q; obtain ⟨o,_,_,e,_⟩:=hn₃; exact ⟨o,e⟩
          · exact ⟨o,hk₃ a o q e⟩
      have hst₃ : St (i + 1) h₃:=W.frame _ _ _ hst₂ fun b hb o e=>hk₃ b o (fun (q : b = C)=>hCf (q ▸ hb)) e
      have hD₃:=hk₃ _ _ hDC hD₂
      have hF₃ : RpA h₃ mX ys (((ds.take i).filter p).map f):=rpA_but hF₂ hCX hk₃
      refine wpAny_mono (pts_run (htest C d hmem) S₃) (fun ok s₄ h₄=>?_) fun _ _ e=>e
      refine hideG fun zD zhD=>?_
      obtain ⟨rfl,h₄,tk₄,rfl,hk₄⟩:=h₄
      refine zhD ?_
      clear zhD zD
      have kall : ∀ b o,b ≠ C→b ∉ wr→b ≠ D→s₂.heap.get? b = some o→h₄.get? b = some o:=fun b o q1 q2 q3 e=>hk₄ b o (hk₃ b o q1 (hk₂ b o q2 (hk b o q1 q2 q3 e)))
      cases hpd : p d with
      | false =>
        simp only [Bool.false_eq_true,if_false]
        refine ⟨ds.length + 1 - (i + 1),by lia,(hJI _ _).2 ⟨h₄,tk₄,m₃,ys,i + 1,n',rfl,W.frame _ _ _ hst₃ fun b _ o e=>hk₄ b o e,hk₄ _ _ hD₃,hn₃.keeps hk₄,?_,hlt,rfl,kall⟩⟩
        rw [take_succ_filter p _ i d hd,hpd]
        simpa using hF₃.ext hk₄
      | true =>
        simp only [if_true]
        have k34 : Keeps { s₂ with heap:=h₃,toks:=tk₃ } { s₂ with heap:=h₄,toks:=tk₄ }:=⟨h₄,tk₄,rfl,hk₄⟩
        refine wpAny_mono (helt C d hmem hpd _ _ mX (S₃.keeps k34)) (fun y s₅ h₅=>?_) fun _ _ e=>e
        refine hideG fun zD zhD=>?_
        refine e0a2 h₅ fun zs390 hry=>?_
        refine e2a2 zs390 fun h₅ tk₅ zr391 hk₅=>?_
        subst zr391
        refine zhD ?_
        clear zhD zD
        have hys : (ys.toArray).size ≤ sizeLine:=by simp; lia
        refine append_at (hsz:=hys) (hk₅ _ _ (hk₄ _ _ hD₃)) fun h₆ hs₆ hD₆=>?_
        refine ⟨ds.length + 1 - (i + 1),by lia,(hJI _ _).2 ⟨h₆,tk₅,m₃,ys ++ [y],i + 1,n' + 1,rfl,W.frame _ _ _ hst₃ fun b hb o e=>hs₆.extBut b o (fun q=>hDf (q ▸ hb)) (hk₅ _ _ (hk₄ b o e)),?_,((hn₃.keeps hk₄).keeps hk₅).sameBut hs₆ (Ne.symm hDC),?_,hlt,rfl,fun b o q1 q2 q3 e=>hs₆.extBut b o q3 (hk₅ b o (kall b o q1 q2 q3 e))⟩⟩
        · rw [hD₆]; simp
        · rw [take_succ_filter p _ i d hd,hpd]
          have z : RpA h₆ mX (ys ++ [y]) (((ds.take i).filter p).map f ++ [f d]) :=
            rpA_but (((hF₃.ext hk₄).ext hk₅).snoc hry) hDX hs₆.extBut
          simpa using z
    · have hie : i = ds.length:=by lia
      subst hie
      refine W.done _ _ _ hst' fun h₂ tk₂ hk₂=>?_
      have kall : ∀ b o,s0.heap.get? b = some o→h₂.get? b = some o:=fun b o e =>
        let ⟨a1,a2,a3⟩:=lt0 b o e
        hk₂ b o a3 (hk b o a1 a3 a2 (Keeps.ext k0 b o e))
      refine hRR D C h₂ tk₂ m' ys (fresh2 _ (Nat.le_refl _)) (fresh2 _ (by lia)) hDC (hn'.at' fun o e=>hk₂ _ o hCw e) ⟨n',hk₂ _ _ hDw hacc'⟩ ?_ kall
      rw [List.take_length] at hF
      have z : RpA h₂ mX ys ((ds.filter p).map f):=hF.mono (fun b o hb e=>hk₂ b o (fun q=>hb (hwX b q)) e) fun _ hb=>.inl hb
      exact z.hide fun b hb=>by
        rcases List.mem_cons.mp hb with rfl | hb
        · exact .inl hCX
        · rcases List.mem_cons.mp hb with rfl | hb
          · exact .inl hDX
          · exact .inl (hmtX b hb)
  have hst₁ : St 0 h₁:=W.frame _ _ _ hst fun b _ o e=>old b o e
  exact codeAny_compStart_list (loop _ rfl) (W.self 0 _ _ _ hst₁ (loop _ rfl))
end
end Mine
namespace Mine
open PySem PySem.W PyProof.Rows PySem.Calls
theorem not_old {s s₂ : Shared} (k : Keeps s s₂) {C b : Addr} {o : Obj} (hC : s₂.heap.get? C = none) (e : s.heap.get? b = some o) : b ≠ C:=fun q=>by
  have:=Keeps.ext k _ _ e
  rw [q,hC] at this
  cases this
theorem none_old {s s₂ : Shared} (k : Keeps s s₂) {C : Addr} (hC : s₂.heap.get? C = none) : s.heap.get? C = none:=by
  cases e : s.heap.get? C with
  | none=>rfl
  | some o=>exact absurd rfl (not_old k hC e)
theorem not_mt {s : Shared} {mt : List Addr} (hex : ∀ a ∈ mt,∃ o,s.heap.get? a = some o) {D : Addr} (hD : s.heap.get? D = none) : D ∉ mt:=fun hm=>by
  obtain ⟨o,e⟩:=hex D hm
  rw [hD] at e; cases e
section
variable {prog : Program} {w : World} {K : Frag} {mg mb : Str→Option Value} {A : Around} {env : Env} {ρ : List (Str × PyData)}
theorem comp_here {E : Value→Shared→Prop} {s : Shared} {mt : List Addr} (S : Sv K mg mb env mt ρ s) {elt target iter : Expr} {ifs : List Expr} {scope : Scope} {pos : Pos} (cl : List (Str × Addr)) {ds : List PyData} (bd : PyData→List (Str × PyData)) (ρf : List (Str × PyData))
    (p : PyData→Bool) (f : PyData→PyData)
    (hsrc : SrcHere prog w A env iter ds mt s)
    (hclos : closureFor scope env = pure cl) (hcell : ∀ y ∈ scope.names,y.2 ≠ .cell) (hkind : scope.kind = .function) (hnames : ∀ y ∈ scope.names,y.2 = .local→scope.names.lookup y.1 = some .local)
    (hfree : FreeOk env scope cl ρ ρf)
    (htgt : ∀ C d,d ∈ ds→Tgt prog w A (compEnvC scope cl C env) target d (bd d))
    (htest : ∀ C d,d ∈ ds→PTs prog w K mg mb A (compEnvC scope cl C env) (bd d ++ ρf) ifs (p d))
    (helt : ∀ C d,d ∈ ds→p d = true→PE prog w K mg mb A (compEnvC scope cl C env) (bd d ++ ρf) elt (f d))
    (hz : ds.length ≤ sizeLine) (hs : ∀ x,foldedSetIterable iter env x = pure x:=by intro _; rfl) :
    wpAny (model prog w) A (eval (.ListComp elt [⟨target,iter,ifs,0⟩] scope pos) env) (fun v s'=>Keeps s s'∧Rp s'.heap mt v (.list ((ds.filter p).map f))) E s:=by
  rw [eval_ListComp]
  refine wpAny_comprehension_free (use:=none) rfl hs hclos hkind hnames (wpAny_mono (hsrc E) (fun xv s₁ h₁=>wpAny_mono h₁ (fun it s₂ ⟨k0,src⟩=>?_) fun _ _ e=>e) fun _ _ e=>e)
  refine comp_core (RR:=fun acc C=>compPost (model prog w) A E none (fun v s'=>Keeps s s'∧Rp s'.heap mt v (.list ((ds.filter p).map f))) acc C) p f S k0 src hcell hkind hfree htgt htest helt hz ?_
  intro D C h' tk m' ys hD hC hDC hn hl hr hk
  refine ⟨m',hn,fun h'' hs''=>⟨?_,?_⟩⟩
  · have k1 : ∀ b o,s.heap.get? b = some o→h''.get? b = some o:=fun b o e=>hs''.extBut b o (not_old k0 hC e) (hk b o e)
    refine e2a2 k0 fun h₂ tk₂ zr203 _=>?_
    subst zr203
    exact ⟨h'',tk,rfl,k1⟩
  · have hr' : RpA h'' (C :: D :: mt) ys ((ds.filter p).map f):=rpA_but hr (.head _) hs''.extBut
    exact .mkList (hl.extBut hs''.extBut hDC) (not_mt S.mex (none_old k0 hD)) (hr'.hide fun b hb=>.inl (.tail _ (.tail _ hb)))
theorem pe_comp {elt target iter : Expr} {ifs : List Expr} {scope : Scope} {pos : Pos} (cl : List (Str × Addr)) {ds : List PyData} (bd : PyData→List (Str × PyData)) (ρf : List (Str × PyData))
    (p : PyData→Bool) (f : PyData→PyData)
    (hsrc : Src prog w K mg mb A env ρ iter ds)
    (hclos : closureFor scope env = pure cl) (hcell : ∀ y ∈ scope.names,y.2 ≠ .cell) (hkind : scope.kind = .function) (hnames : ∀ y ∈ scope.names,y.2 = .local→scope.names.lookup y.1 = some .local)
    (hfree : FreeOk env scope cl ρ ρf)
    (htgt : ∀ C d,d ∈ ds→Tgt prog w A (compEnvC scope cl C env) target d (bd d))
    (htest : ∀ C d,d ∈ ds→PTs prog w K mg mb A (compEnvC scope cl C env) (bd d ++ ρf) ifs (p d))
    (helt : ∀ C d,d ∈ ds→p d = true→PE prog w K mg mb A (compEnvC scope cl C env) (bd d ++ ρf) elt (f d))
    (hz : ds.length ≤ sizeLine) (hs : ∀ x,foldedSetIterable iter env x = pure x:=by intro _; rfl) :
    PE prog w K mg mb A env ρ (.ListComp elt [⟨target,iter,ifs,0⟩] scope pos) (.list ((ds.filter p).map f)):=fun E s mt S =>
  comp_here S cl bd ρf p f (hsrc.here S) hclos hcell hkind hnames hfree htgt htest helt hz hs
end
noncomputable def Loc (env : Env) (b : Addr) : Prop:=b = env.locals ∨ ∃ x,env.cells.lookup x = some b
structure Fm (K : Frag) (mg mb : Str→Option Value) (s0 : Shared) (env : Env) (mt : List Addr) (ρ : List (Str × PyData)) (s : Shared) : Prop where
  gl0 : Gl K mg mb s0.heap
  vars : ∀ x d,ρ.lookup x = some d→∃ v,Var env s.heap x v∧Rp s.heap mt v d
  mex : ∀ a ∈ mt,∃ o,s.heap.get? a = some o
  glb : env.globals = mainGlobals
  blt : env.builtins = builtinsNs
  knd : env.scope.kind = .function
  keep : Keeps s0 s
  locs : ∀ b,Loc env b→b ∈ mt∧s0.heap.get? b = none
  lns : ∃ m,s.heap.Ns env.locals m
  cels : ∀ x c,env.cells.lookup x = some c→(∃ v,s.heap.IsCell c v)∧c ≠ env.locals
  cinj : ∀ x y c,env.cells.lookup x = some c→env.cells.lookup y = some c→x = y
  cknd : ∀ x,env.kindOf x = some .cell→∃ c,env.cells.lookup x = some c
section
variable {prog : Program} {w : World} {K : Frag} {mg mb : Str→Option Value} {A : Around} {env : Env} {ρ ρ' : List (Str × PyData)} {s0 s : Shared} {mt : List Addr} {E : Value→Shared→Prop}
theorem Fm.sv (x : Fm K mg mb s0 env mt ρ s) : Sv K mg mb env mt ρ s:=⟨x.gl0.ext (Keeps.ext x.keep),x.vars,x.mex,x.glb,x.blt,x.knd⟩
theorem Fm.keeps {s' : Shared} (x : Fm K mg mb s0 env mt ρ s) (k : Keeps s s') : Fm K mg mb s0 env mt ρ s' :=
  ⟨x.gl0,(x.sv.keeps k).vars,(x.sv.keeps k).mex,x.glb,x.blt,x.knd,Keeps.trans' x.keep k,x.locs,let ⟨m,h⟩:=x.lns; ⟨m,h.keeps (Keeps.ext k)⟩,fun y c e=>let ⟨⟨v,h⟩,n⟩:=x.cels y c e; ⟨⟨v,h.keeps (Keeps.ext k)⟩,n⟩,x.cinj,x.cknd⟩
theorem Fm.weak (x : Fm K mg mb s0 env mt ρ s) (h : ∀ y d,ρ'.lookup y = some d→ρ.lookup y = some d) : Fm K mg mb s0 env mt ρ' s :=
  ⟨x.gl0,fun y d e=>x.vars y d (h y d e),x.mex,x.glb,x.blt,x.knd,x.keep,x.locs,x.lns,x.cels,x.cinj,x.cknd⟩
theorem Fm.turn {mt' : List Addr} {h' : Heap} {tk : Nat} (x : Fm K mg mb s0 env mt ρ s) (hm : ∀ b ∈ mt,b ∈ mt') (hm' : ∀ b ∈ mt',b ∈ mt ∨ s.heap.get? b = none) (hex : ∀ a ∈ mt',∃ o,h'.get? a = some o)
    (hk : ∀ b o,(b ∈ mt'→Loc env b)→s.heap.get? b = some o→h'.get? b = some o) (hk0 : ∀ b o,s0.heap.get? b = some o→h'.get? b = some o) :
    Fm K mg mb s0 env mt' ρ { s with heap:=h',toks:=tk }:=by
  have kl : ∀ b o,Loc env b→s.heap.get? b = some o→h'.get? b = some o:=fun b o hl e=>hk b o (fun _=>hl) e
  have kn : ∀ b o,b ∉ mt→s.heap.get? b = some o→h'.get? b = some o:=fun b o hl e=>hk b o (fun q=>by
    rcases hm' b q with h | h
    · exact absurd h hl
    · rw [h] at e; cases e) e
  refine ⟨x.gl0,fun y d e=>?_,hex,x.glb,x.blt,x.knd,?_,fun b hb=>⟨hm b (x.locs b hb).1,(x.locs b hb).2⟩,?_,?_,x.cinj,x.cknd⟩
  · refine e1a2 (x.vars y d e) fun v zs204 hr=>?_
    refine e0a2 zs204 fun hf hv=>?_
    refine ⟨v,⟨hf,?_⟩,hr.mono kn hm'⟩
    rcases hv with ⟨hl,m,hn,hmx⟩ | ⟨hl,c,hc,o,ho,hd⟩
    · exact .inl ⟨hl,m,hn.at' fun o e=>kl _ o (.inl rfl) e,hmx⟩
    · exact .inr ⟨hl,c,hc,o,kl _ o (.inr ⟨y,hc⟩) ho,hd⟩
  · refine e2a2 x.keep fun h₁ t₁ e _=>?_
    exact ⟨h',tk,by rw [e],hk0⟩
  · refine e1a1 x.lns fun m h=>?_
    exact ⟨m,h.at' fun o e=>kl _ o (.inl rfl) e⟩
  · intro y c e
    refine e0a2 (x.cels y c e) fun zs205 n=>?_
    refine e2a2 zs205 fun v o ho hd=>?_
    exact ⟨⟨v,o,kl _ o (.inr ⟨y,e⟩) ho,hd⟩,n⟩
theorem lookup_put {ρ : List (Str × PyData)} {x y : Str} {d dy : PyData} (h : ((x,d) :: ρ).lookup y = some dy) : (y = x∧dy = d) ∨ (y ≠ x∧ρ.lookup y = some dy):=by
  by_cases e : y = x
  · subst e
    rw [List.lookup_cons_self] at h
    cases h
    exact .inl ⟨rfl,rfl⟩
  · rw [List.lookup_cons,show (y == x) = false from by simpa using e] at h
    exact .inr ⟨e,h⟩
theorem fm_raw {x : Str} {v : Value} {Q : Unit→Shared→Prop} (F : Fm K mg mb s0 env mt ρ s) (hx : env.kindOf x = some .local ∨ env.kindOf x = some .cell)
    (h : ∀ s',(∃ h' tk,s' = { s with heap:=h',toks:=tk })→(∀ b o,¬ Loc env b→s.heap.get? b = some o→s'.heap.get? b = some o)→(∀ y vy,y ≠ x→Var env s.heap y vy→Var env s'.heap y vy)→Var env s'.heap x v →
      (∀ ρ',(∀ y d,ρ'.lookup y = some d→∃ vy,Var env s'.heap y vy∧Rp s.heap mt vy d)→Fm K mg mb s0 env mt ρ' s')→Q () s') :
    wpAny (model prog w) A (storeName env x v) Q E s:=by
  have go : ∀ (L : Addr) (h' : Heap) (tk : Nat),Loc env L→Heap.SameBut L s.heap h'→(∃ m,h'.Ns env.locals m)→(∀ y c,env.cells.lookup y = some c→∃ v,h'.IsCell c v) →
      Var env h' x v→(∀ y vy,y ≠ x→Var env s.heap y vy→Var env h' y vy)→Q () { s with heap:=h',toks:=tk }:=by
    intro L h' tk hL hs hn hcs hvx hvy
    have hLm:=F.locs L hL
    have kb : ∀ b o,b ≠ L→s.heap.get? b = some o→h'.get? b = some o:=hs.extBut
    have kr : ∀ {v : Value} {d : PyData},Rp s.heap mt v d→Rp h' mt v d:=fun r=>rp_but r hLm.1 kb
    refine h _ ⟨h',tk,rfl⟩ (fun b o hb e=>kb b o (fun q=>hb (q ▸ hL)) e) hvy hvx fun ρ' hρ'=>⟨F.gl0,fun y dy hy=>?_,fun a ha=>?_,F.glb,F.blt,F.knd,?_,F.locs,hn,fun y c e=>⟨hcs y c e,(F.cels y c e).2⟩,F.cinj,F.cknd⟩
    · refine e1a2 (hρ' y dy hy) fun vy hv hry=>?_
      exact ⟨vy,hv,kr hry⟩
    · refine e1a1 (F.mex a ha) fun o e=>?_
      by_cases q : a = L
      · rcases hL with hL | ⟨y,hy⟩
        · refine e4a2 hn fun m o _ _ e' _=>?_
          exact ⟨o,by rw [q,hL]; exact e'⟩
        · refine e2a2 (hcs y L hy) fun vc o e' _=>?_
          exact ⟨o,by rw [q]; exact e'⟩
      · exact ⟨o,kb a o q e⟩
    · refine e2a2 F.keep fun h₁ t₁ e k=>?_
      refine ⟨h',tk,by rw [e],fun b o eb=>kb b o (fun q=>?_) ?_⟩
      · rw [q,hLm.2] at eb; cases eb
      · rw [e]; exact k b o eb
  rcases hx with hx | hx
  · refine e1a1 F.lns fun m hn=>?_
    refine wpAny_storeName_local hx hn (fun h' hn' hs'=>?_) (by rw [F.knd]; rfl)
    refine go env.locals h' _ (.inl rfl) hs' ⟨_,hn'⟩ (fun y c e=>?_) ⟨F.knd,.inl ⟨hx,_,hn',by simp⟩⟩ fun y vy hne hv=>?_
    · refine e0a2 (F.cels y c e) fun zs206 hc=>?_
      refine e1a1 zs206 fun vc hvc=>?_
      exact ⟨vc,hvc.sameBut hs' hc⟩
    · obtain ⟨hf,⟨hl,m₁,hn₁,hm₁⟩ | ⟨hl,c,hc,hcv⟩⟩:=hv
      · have e1 : m₁ y = m y:=by
          refine e3a4 hn₁ fun o1 es1 ep1 g1 d1 _ f1=>?_
          refine e3a4 hn fun o2 es2 ep2 g2 d2 _ f2=>?_
          rw [g1] at g2; cases g2
          rw [d1] at d2; cases d2
          rw [← f1,← f2]
        exact ⟨hf,.inl ⟨hl,_,hn',by simp [hne,← e1,hm₁]⟩⟩
      · exact ⟨hf,.inr ⟨hl,c,hc,hcv.sameBut hs' (F.cels y c hc).2⟩⟩
  · refine e1a1 (F.cknd x hx) fun c hc=>?_
    refine e0a2 (F.cels x c hc) fun zs207 hcl=>?_
    refine e1a1 zs207 fun v₀ hv₀=>?_
    refine wpAny_storeName_cell F.knd hx hc hv₀ fun h' hc' hs'=>?_
    refine go c h' s.toks (.inr ⟨x,hc⟩) hs' ?_ (fun y c' e=>?_) ⟨F.knd,.inr ⟨.inl hx,c,hc,hc'⟩⟩ fun y vy hne hv=>?_
    · refine e1a1 F.lns fun m hn=>?_
      exact ⟨m,hn.sameBut hs' (Ne.symm hcl)⟩
    · by_cases q : c' = c
      · subst q; exact ⟨_,hc'⟩
      · refine e0a2 (F.cels y c' e) fun zs208 _=>?_
        refine e1a1 zs208 fun vc hvc=>?_
        exact ⟨vc,hvc.sameBut hs' q⟩
    · obtain ⟨hf,⟨hl,m₁,hn₁,hm₁⟩ | ⟨hl,c',hc'',hcv⟩⟩:=hv
      · exact ⟨hf,.inl ⟨hl,m₁,hn₁.sameBut hs' (Ne.symm hcl),hm₁⟩⟩
      · refine ⟨hf,.inr ⟨hl,c',hc'',hcv.sameBut hs' fun q=>hne (F.cinj y x c (q ▸ hc'') hc)⟩⟩
theorem fm_store {x : Str} {v : Value} {d : PyData} {Q : Unit→Shared→Prop} (F : Fm K mg mb s0 env mt ρ s) (hx : env.kindOf x = some .local ∨ env.kindOf x = some .cell) (hr : Rp s.heap mt v d)
    (h : ∀ s',Fm K mg mb s0 env mt ((x,d) :: ρ) s'→(∃ h' tk,s' = { s with heap:=h',toks:=tk })→(∀ b o,¬ Loc env b→s.heap.get? b = some o→s'.heap.get? b = some o)→(∀ y vy,y ≠ x→Var env s.heap y vy→Var env s'.heap y vy)→Var env s'.heap x v→Q () s') :
    wpAny (model prog w) A (storeName env x v) Q E s :=
  fm_raw F hx fun s' h1 h2 h3 h4 h5=>h s' (h5 _ fun y dy hy=>by
    rcases lookup_put hy with ⟨rfl,rfl⟩ | ⟨hne,hy⟩
    · exact ⟨v,h4,hr⟩
    · refine e1a2 (F.vars y dy hy) fun vy hv hry=>?_
      exact ⟨vy,h3 y vy hne hv,hry⟩) h1 h2 h3 h4
end
end Mine
namespace Mine
open PySem PySem.W PyProof.Rows PySem.Calls
theorem bindL_out (kindOf : Str→Option NameKind) : ∀ (r : List (Str × Value)) (m : Str→Option Value) (x : Str),x ∉ r.map (·.1)→bindL kindOf r m x = m x
  | [],_,_,_=>rfl
  | (n,v) :: r,m,x,h=>by
    unfold bindL
    rw [bindL_out kindOf r _ x fun q=>h (.tail _ q)]
    have hne : x ≠ n:=fun q=>h (q ▸ .head _)
    split
    · simp [hne]
    · rfl
theorem bindC_out (kindOf : Str→Option NameKind) : ∀ (r : List (Str × Value)) (m : Str→Option Value) (x : Str),x ∉ r.map (·.1)→bindC kindOf r m x = m x
  | [],_,_,_=>rfl
  | (n,v) :: r,m,x,h=>by
    unfold bindC
    rw [bindC_out kindOf r _ x fun q=>h (.tail _ q)]
    have hne : x ≠ n:=fun q=>h (q ▸ .head _)
    split
    · rfl
    · simp [hne]
theorem bindL_in (kindOf : Str→Option NameKind) : ∀ (r : List (Str × Value)) (m : Str→Option Value) (x : Str) (v : Value),(r.map (·.1)).Nodup→(x,v) ∈ r→kindOf x = some .local→bindL kindOf r m x = some v
  | (n,u) :: r,m,x,v,hn,h,hk=>by
    unfold bindL
    rw [List.map_cons,List.nodup_cons] at hn
    rcases List.mem_cons.mp h with e | h
    · refine e0a2 (Prod.mk.inj e) fun e1 e2=>?_
      subst e1; subst e2
      rw [bindL_out kindOf r _ x hn.1,if_pos hk]
      simp
    · exact bindL_in kindOf r _ x v hn.2 h hk
theorem bindC_in (kindOf : Str→Option NameKind) : ∀ (r : List (Str × Value)) (m : Str→Option Value) (x : Str) (v : Value),(r.map (·.1)).Nodup→(x,v) ∈ r→kindOf x ≠ some .local→bindC kindOf r m x = some v
  | (n,u) :: r,m,x,v,hn,h,hk=>by
    unfold bindC
    rw [List.map_cons,List.nodup_cons] at hn
    rcases List.mem_cons.mp h with e | h
    · refine e0a2 (Prod.mk.inj e) fun e1 e2=>?_
      subst e1; subst e2
      rw [bindC_out kindOf r _ x hn.1,if_neg hk]
      simp
    · exact bindC_in kindOf r _ x v hn.2 h hk
theorem cellsFrom_acc : ∀ (names : List (Str × NameKind)) (n : Nat) (acc : List (Str × Addr)) (p : Str × Addr),p ∈ acc→p ∈ cellsFrom n names acc
  | [],_,_,_,h=>h
  | (x,k) :: r,n,acc,p,h=>by
    unfold cellsFrom
    split
    · exact cellsFrom_acc r _ _ p (.tail _ h)
    · exact cellsFrom_acc r _ _ p h
theorem cellsFrom_mem : ∀ (names : List (Str × NameKind)) (n : Nat) (acc : List (Str × Addr)) (x : Str),names.lookup x = some .cell→∃ c,(x,c) ∈ cellsFrom n names acc
  | (y,k) :: r,n,acc,x,h=>by
    by_cases e : x = y
    · subst e
      rw [List.lookup_cons_self] at h
      cases h
      unfold cellsFrom
      exact ⟨n,cellsFrom_acc r _ _ _ (.head _)⟩
    · rw [List.lookup_cons,show (x == y) = false from by simpa using e] at h
      unfold cellsFrom
      split
      · exact cellsFrom_mem r _ _ x h
      · exact cellsFrom_mem r _ _ x h
theorem lookup_of_mem {l : List (Str × Addr)} {x : Str} {c : Addr} (h : (x,c) ∈ l) : ∃ c',l.lookup x = some c':=by
  induction l with
  | nil=>cases h
  | cons p l ih =>
    obtain ⟨y,d⟩:=p
    by_cases e : x = y
    · subst e; exact ⟨d,List.lookup_cons_self⟩
    · rcases List.mem_cons.mp h with q | h
      · cases q; exact absurd rfl e
      · obtain ⟨c',hc⟩:=ih h
        exact ⟨c',by rw [List.lookup_cons,show (x == y) = false from by simpa using e]; exact hc⟩
noncomputable def mtOf (env : Env) : List Addr:=env.locals :: env.cells.map fun p=>(env.cells.lookup p.1).getD env.locals
theorem loc_mt {env : Env} {b : Addr} (h : Loc env b) : b ∈ mtOf env:=by
  rcases h with rfl | ⟨x,hx⟩
  · exact .head _
  · exact .tail _ (List.mem_map.mpr ⟨(x,b),mem_of_lookup hx,by rw [hx]; rfl⟩)
theorem Aok.deeper {n : Nat} {A : Around} (h : Aok (n + 1) A) (env : Env) : Aok n (A.deeper env) :=
  ⟨h.hd,by have:=h.dp; show A.depth + 1 + n < _; lia,by have:=h.un; show A.units + 3 + 100 * n + 1000 < _; lia⟩
theorem Aok.le {n k : Nat} {A : Around} (h : Aok n A) (hk : k ≤ n) : Aok k A:=⟨h.hd,by have:=h.dp; lia,by have:=h.un; have : 100 * k ≤ 100 * n:=Nat.mul_le_mul_left _ hk; lia⟩
section
variable {prog : Program} {w : World} {K : Frag} {mg mb : Str→Option Value} {A : Around}
theorem zip_lookup : ∀ {names : List Str} {ds : List PyData} {vs : List Value} {h : Heap} {mt : List Addr} {x : Str} {d : PyData},RpA h mt vs ds→(names.zip ds).lookup x = some d→∃ v,(x,v) ∈ names.zip vs∧Rp h mt v d
  | [],_,_,_,_,_,_,_,e=>by simp at e
  | n :: names,ds,vs,h,mt,x,d,r,e=>by
    cases ds with
    | nil=>simp at e
    | cons d' ds =>
      refine e2a3 r.cons_inv fun v vs' zr158 r1 r2=>?_
      subst zr158
      rw [List.zip_cons_cons] at e
      rcases lookup_put e with ⟨rfl,rfl⟩ | ⟨_,e⟩
      · exact ⟨v,.head _,r1⟩
      · refine e1a2 (zip_lookup r2 e) fun u hu hr=>?_
        exact ⟨u,.tail _ hu,hr⟩
theorem cc_def {f : Addr} {o : Obj} {fd : FuncData} {body : List Stmt} {ds : List PyData} {d : PyData} {n : Nat} (names : List Str) (hA : Aok (n + 1) A)
    (ho : K.lookup f = some o) (hd : o.data = .func fd) (hcd : codeIn K fd.code fd.qualname = true) (hbody : fd.body = .stmts body)
    (hlen : names.length = ds.length) (hnd : names.Nodup) (hbind : ∀ vs : List Value,vs.length = names.length→bindArgs fd ⟨vs,[]⟩ = pure (names.zip vs))
    (hk : ∀ x ∈ names,fd.scope.names.lookup x = some .local ∨ fd.scope.names.lookup x = some .cell)
    (h : ∀ (s : Shared) (mt : List Addr) (s₁ : Shared),(∀ a ∈ mt,∃ o,s.heap.get? a = some o)→Fm K mg mb s (callEnvC fd s.heap.objs.size f) (mtOf (callEnvC fd s.heap.objs.size f) ++ mt) (names.zip ds) s₁ →
      wpAny (model prog w) (A.deeper (callEnvC fd s.heap.objs.size f)) (execs body (callEnvC fd s.heap.objs.size f)) (fun fl s'=>∃ v,fl = .ret v∧Keeps s s'∧Rp s'.heap mt v d) (fun _ _=>False) s₁)
    (hclo : fd.closure = []:=by rfl) (hgl : fd.globals = mainGlobals:=by rfl) (hbl : fd.builtins = builtinsNs:=by rfl)
    (hco : fd.scope.isCoroutine = false:=by rfl) (hgen : fd.scope.isGenerator = false:=by rfl) (hkn : fd.scope.kind = .function:=by rfl) :
    CC prog w K mg mb A (.ref f) ds d:=fun E s mt vs G hex r=>by
  have hvl : vs.length = names.length:=by rw [r.length,hlen]
  have hzn : (names.zip vs).map (·.1) = names:=by
    rw [List.map_fst_zip]; lia
  refine wpAny_call (codeAny_call_cells (binds:=names.zip vs) (by have:=hA.dp; lia) (G.k _ _ ho) hd G.lim (codeRec_of G.k hcd) hbody (hbind vs hvl) hclo ?_ (fun s₁ X=>?_) hco hgen hkn)
  · intro x hx
    have hm : x.1 ∈ names:=by rw [← hzn]; exact List.mem_map.mpr ⟨x,hx,rfl⟩
    rcases hk x.1 hm with h1 | h1
    · exact .inl h1
    · refine .inr ⟨h1,?_⟩
      refine e1a1 (cellsFrom_mem fd.scope.names (s.heap.objs.size + 1) [] x.1 h1) fun c hc=>?_
      refine e1a1 (lookup_of_mem hc) fun c' hc'=>?_
      rw [hc']; rfl
  · generalize hE : callEnvC fd s.heap.objs.size f = env at X ⊢
    have hL : env.locals = s.heap.objs.size:=by rw [← hE]; rfl
    have hks : env.scope = fd.scope:=by rw [← hE]; rfl
    have hcs : env.cells = cellsFrom (s.heap.objs.size + 1) fd.scope.names []:=by rw [← hE]; rfl
    have fresh : ∀ b,s.heap.objs.size ≤ b→s.heap.get? b = none:=fun b hb=>by
      cases e : s.heap.get? b with
      | none=>rfl
      | some o=>exact absurd (Heap.lt_size e) (Nat.not_lt.mpr hb)
    have newm : ∀ b ∈ mtOf env,s.heap.get? b = none:=fun b hb=>by
      rcases List.mem_cons.mp hb with rfl | hb
      · exact fresh _ (Nat.le_of_eq hL.symm)
      · refine e1a2 (List.mem_map.mp hb) fun p hp zr159=>?_
        subst zr159
        refine e1a1 (lookup_of_mem hp) fun c' hc'=>?_
        rw [hc']
        exact fresh _ (Nat.le_of_lt (hL ▸ X.above p.1 c' (mem_of_lookup hc')))
    have keep : Keeps s s₁:=X.done
    have F : Fm K mg mb s env (mtOf env ++ mt) (names.zip ds) s₁:=by
      refine ⟨G,fun x dx hx=>?_,fun a ha=>?_,by rw [← hE]; exact hgl,by rw [← hE]; exact hbl,by rw [hks]; exact hkn,keep,fun b hb=>⟨List.mem_append.mpr (.inl (loc_mt hb)),newm b (loc_mt hb)⟩,⟨_,X.toInCall.ns⟩,fun x c hc=>⟨⟨_,X.cell x c hc⟩,Nat.ne_of_gt (X.above x c (mem_of_lookup hc))⟩,fun x y c h1 h2=>name_of_addr X.apart (mem_of_lookup h1) (mem_of_lookup h2),fun x hx=>?_⟩
      · refine e1a2 (zip_lookup r hx) fun v hv hr=>?_
        have hm : x ∈ names:=by rw [← hzn]; exact List.mem_map.mpr ⟨(x,v),hv,rfl⟩
        have hkx : env.kindOf x = fd.scope.names.lookup x:=by unfold Env.kindOf; rw [hks]
        refine ⟨v,⟨by rw [hks]; exact hkn,?_⟩,hr.mono (fun b o _ e=>Keeps.ext keep b o e) fun b hb=>?_⟩
        · rcases hk x hm with h1 | h1
          · exact .inl ⟨by rw [hkx]; exact h1,_,X.toInCall.ns,bindL_in _ _ _ x v (by rw [hzn]; exact hnd) hv (by rw [hkx]; exact h1)⟩
          · refine e1a1 (cellsFrom_mem fd.scope.names (s.heap.objs.size + 1) [] x h1) fun c hc=>?_
            refine e1a1 (lookup_of_mem hc) fun c' hc'=>?_
            have hcl : env.cells.lookup x = some c':=by rw [hcs]; exact hc'
            have z:=X.cell x c' hcl
            rw [bindC_in _ _ _ x v (by rw [hzn]; exact hnd) hv (by rw [hkx,h1]; decide)] at z
            exact .inr ⟨.inl (by rw [hkx]; exact h1),c',hcl,z⟩
        · rcases List.mem_append.mp hb with h1 | h1
          · exact .inr (newm b h1)
          · exact .inl h1
      · rcases List.mem_append.mp ha with h1 | h1
        · rcases List.mem_cons.mp h1 with rfl | h1
          · obtain ⟨o,_,_,e,_⟩:=X.toInCall.ns; exact ⟨o,e⟩
          · refine e1a2 (List.mem_map.mp h1) fun p hp zr160=>?_
            subst zr160
            refine e1a1 (lookup_of_mem hp) fun c' hc'=>?_
            rw [hc']
            refine e1a2 (X.cell _ _ hc') fun o e _=>?_
            exact ⟨o,e⟩
        · refine e1a1 (hex a h1) fun o e=>?_
          exact ⟨o,Keeps.ext keep _ _ e⟩
      · have h1 : fd.scope.names.lookup x = some .cell:=by rw [← hks]; exact hx
        refine e1a1 (cellsFrom_mem fd.scope.names (s.heap.objs.size + 1) [] x h1) fun c hc=>?_
        refine e1a1 (lookup_of_mem hc) fun c' hc'=>?_
        exact ⟨c',by rw [hcs]; exact hc'⟩
    have z:=h s mt s₁ hex (by rw [hE]; exact F)
    rw [hE] at z
    exact wpAny_mono z (fun fl s' ⟨v,e,k,rv⟩=>by subst e; exact ⟨k,rv⟩) fun _ _ f=>f.elim
end
end Mine
namespace Mine
open PySem PySem.W PyProof.Rows PySem.Calls
noncomputable def Kl (env : Env) (xs : List Str) (s s' : Shared) : Prop:=∃ h' tk,s' = { s with heap:=h',toks:=tk }∧(∀ b o,¬ Loc env b→s.heap.get? b = some o→h'.get? b = some o)∧∀ y v,y ∉ xs→Var env s.heap y v→Var env h' y v
theorem Kl.of {env : Env} {xs : List Str} {s s' : Shared} (k : Keeps s s') : Kl env xs s s':=let ⟨h',tk,e,k⟩:=k; ⟨h',tk,e,fun b o _ q=>k b o q,fun _ _ _ a=>a.ext k⟩
theorem Kl.trans {env : Env} {xs : List Str} {s s₁ s₂ : Shared} (a : Kl env xs s s₁) (b : Kl env xs s₁ s₂) : Kl env xs s s₂:=by
  refine e2a3 a fun h₁ t₁ zr59 k₁ v₁=>?_
  subst zr59
  refine e2a3 b fun h₂ t₂ zr60 k₂ v₂=>?_
  subst zr60
  exact ⟨h₂,t₂,rfl,fun b o hn e=>k₂ b o hn (k₁ b o hn e),fun y v hy q=>v₂ y v hy (v₁ y v hy q)⟩
theorem Kl.ext {env : Env} {xs : List Str} {s s₁ : Shared} (a : Kl env xs s s₁) : ∀ b o,¬ Loc env b→s.heap.get? b = some o→s₁.heap.get? b = some o:=by
  obtain ⟨h₁,t₁,rfl,k₁,_⟩:=a; exact k₁
theorem Kl.var {env : Env} {xs : List Str} {s s₁ : Shared} (a : Kl env xs s s₁) : ∀ y v,y ∉ xs→Var env s.heap y v→Var env s₁.heap y v:=by
  obtain ⟨h₁,t₁,rfl,_,k₁⟩:=a; exact k₁
theorem Kl.mono {env : Env} {xs ys : List Str} {s s₁ : Shared} (a : Kl env xs s s₁) (h : ∀ x ∈ xs,x ∈ ys) : Kl env ys s s₁:=by
  obtain ⟨h₁,t₁,e,k,v⟩:=a
  exact ⟨h₁,t₁,e,k,fun y u hy q=>v y u (fun z=>hy (h y z)) q⟩
section
variable {prog : Program} {w : World} {K : Frag} {mg mb : Str→Option Value} {A : Around} {env : Env} {ρ ρ' : List (Str × PyData)} {s0 s : Shared} {mt : List Addr} {E : Value→Shared→Prop} {Q : Flow→Shared→Prop}
theorem Fm.store {x : Str} {v : Value} {d : PyData} {Q : Unit→Shared→Prop} (F : Fm K mg mb s0 env mt ρ s) (hx : env.kindOf x = some .local ∨ env.kindOf x = some .cell) (hr : Rp s.heap mt v d)
    (h : ∀ s',Fm K mg mb s0 env mt ((x,d) :: ρ) s'→Kl env [x] s s'→Q () s') : wpAny (model prog w) A (storeName env x v) Q E s :=
  fm_store F hx hr fun s' F' ⟨h',tk,e⟩ k kv _=>h s' F' ⟨h',tk,e,fun b o hb q=>by have:=k b o hb q; rw [e] at this; exact this,fun y vy hy q=>by have:=kv y vy (fun z=>hy (z ▸ .head _)) q; rw [e] at this; exact this⟩
theorem ex_assign {x : Str} {p pos : Pos} {e : Expr} {rest : List Stmt} {d : PyData} (F : Fm K mg mb s0 env mt ρ s) (hx : env.kindOf x = some .local ∨ env.kindOf x = some .cell) (he : PE prog w K mg mb A env ρ e d)
    (h : ∀ s',Fm K mg mb s0 env mt ((x,d) :: ρ) s'→Kl env [x] s s'→wpAny (model prog w) A (execs rest env) Q E s')
    (hsw : swapsWith e (some (.Name x p)) pos.line env = pure false:=by rfl) : wpAny (model prog w) A (execs (.Assign [.Name x p] e pos :: rest) env) Q E s :=
  wpAny_execs_cons (wpAny_Assign_Name (wpAny_mono (he E s mt F.sv) (fun v s₁ ⟨k1,r1⟩=>(F.keeps k1).store hx r1 fun s' F' k=>h s' F' (Kl.trans (Kl.of k1) k)) fun _ _ e=>e) hsw)
theorem ex_ret {e : Expr} {pos : Pos} {rest : List Stmt} {d : PyData} (F : Fm K mg mb s0 env mt ρ s) (he : PE prog w K mg mb A env ρ e d) (h : ∀ v s',Keeps s s'→Rp s'.heap mt v d→Q (.ret v) s') :
    wpAny (model prog w) A (execs (.Return (some e) pos :: rest) env) Q E s :=
  wpAny_execs_cons (wpAny_Return_some (wpAny_mono (he E s mt F.sv) (fun v s₁ ⟨k1,r1⟩=>h v s₁ k1 r1) fun _ _ e=>e))
theorem ex_if {test : Expr} {body orelse rest : List Stmt} {pos : Pos} {b : Bool} (F : Fm K mg mb s0 env mt ρ s) (ht : PT prog w K mg mb A env ρ test b)
    (h1 : b = true→∀ s',Fm K mg mb s0 env mt ρ s'→Keeps s s'→wpAny (model prog w) A (execs body env) (fun f s₁=>match f with | .next=>wpAny (model prog w) A (execs rest env) Q E s₁ | f=>Q f s₁) E s')
    (h2 : b = false→∀ s',Fm K mg mb s0 env mt ρ s'→Keeps s s'→wpAny (model prog w) A (execs orelse env) (fun f s₁=>match f with | .next=>wpAny (model prog w) A (execs rest env) Q E s₁ | f=>Q f s₁) E s') :
    wpAny (model prog w) A (execs (.If test body orelse pos :: rest) env) Q E s :=
  wpAny_execs_cons (wpAny_If (wpAny_mono (ht E s mt F.sv) (fun r s₁ ⟨e,k⟩=>by
    subst e
    cases r with
    | true=>exact h1 rfl s₁ (F.keeps k) k
    | false=>exact h2 rfl s₁ (F.keeps k) k) fun _ _ e=>e))
theorem ex_assign_comp {x : Str} {p : Pos} {elt target iter : Expr} {ifs : List Expr} {scope : Scope} {pos spos : Pos} {rest : List Stmt} (cl : List (Str × Addr)) {ds : List PyData} (bd : PyData→List (Str × PyData)) (ρf : List (Str × PyData))
    (pz : PyData→Bool) (f : PyData→PyData) (F : Fm K mg mb s0 env mt ρ s) (hx : env.kindOf x = some .local)
    (hsrc : Src prog w K mg mb A env ρ iter ds)
    (hclos : closureFor scope env = pure cl) (hcell : ∀ y ∈ scope.names,y.2 ≠ .cell) (hkind : scope.kind = .function) (hnames : ∀ y ∈ scope.names,y.2 = .local→scope.names.lookup y.1 = some .local)
    (hfree : FreeOk env scope cl ρ ρf)
    (htgt : ∀ C d,d ∈ ds→Tgt prog w A (compEnvC scope cl C env) target d (bd d))
    (htest : ∀ C d,d ∈ ds→PTs prog w K mg mb A (compEnvC scope cl C env) (bd d ++ ρf) ifs (pz d))
    (helt : ∀ C d,d ∈ ds→pz d = true→PE prog w K mg mb A (compEnvC scope cl C env) (bd d ++ ρf) elt (f d))
    (hz : ds.length ≤ sizeLine)
    (h : ∀ s',Fm K mg mb s0 env mt ((x,.list ((ds.filter pz).map f)) :: ρ) s'→Kl env [x] s s'→wpAny (model prog w) A (execs rest env) Q E s')
    (hsw : swapsWith (.ListComp elt [⟨target,iter,ifs,0⟩] scope pos) (some (.Name x p)) spos.line env = pure true:=by rfl)
    (hs : ∀ x,foldedSetIterable iter env x = pure x:=by intro _; rfl) :
    wpAny (model prog w) A (execs (.Assign [.Name x p] (.ListComp elt [⟨target,iter,ifs,0⟩] scope pos) spos :: rest) env) Q E s:=by
  refine wpAny_execs_cons ?_
  rw [exec_Assign_Name_used _ _ _ _ hsw]
  refine wpAny_bind (wpAny_standAt (wpAny_bind ?_))
  show wpAny _ A (do let _ ← comprehension (.ListComp elt [⟨target,iter,ifs,0⟩] scope pos) scope env _ (newList []) false (eval iter env) (some (assign (.Name x p) env))) _ _ s
  refine wpAny_bind (wpAny_mono (wpAny_comprehension_free (use:=some (assign (.Name x p) env)) (Q:=fun _ s'=>wpAny (model prog w) A (execs rest env) Q E s') rfl hs hclos hkind hnames
    (wpAny_mono (hsrc E s mt F.sv) (fun xv s₁ h₁=>wpAny_mono h₁ (fun it s₂ ⟨k0,src⟩=>?_) fun _ _ e=>e) fun _ _ e=>e)) (fun _ s' hq=>wpAny_pure (wpAny_pure hq)) fun _ _ e=>e)
  refine comp_core (RR:=fun acc C=>compPost (model prog w) A E (some (assign (.Name x p) env)) (fun _ s'=>wpAny (model prog w) A (execs rest env) Q E s') acc C) pz f F.sv k0 src hcell hkind hfree htgt htest helt hz ?_
  intro D C h' tk m' ys hD hC hDC hn hl hr hk
  show wpAny _ A (assign (.Name x p) env (.ref D)) _ _ _
  have k2 : Keeps s { s₂ with heap:=h',toks:=tk }:=by obtain ⟨h₂,tk₂,rfl,_⟩:=k0; exact ⟨h',tk,rfl,hk⟩
  have C0 : s.heap.get? C = none:=none_old k0 hC
  have CL : ¬ Loc env C:=fun q=>not_mt F.mex C0 (F.locs C q).1
  have F1:=F.keeps k2
  have exC : ∃ o,h'.get? C = some o:=let ⟨o,_,_,e,_⟩:=hn; ⟨o,e⟩
  have F2 : Fm K mg mb s0 env (C :: mt) ρ { s₂ with heap:=h',toks:=tk }:=by
    refine ⟨F1.gl0,fun y d e=>?_,fun a ha=>?_,F1.glb,F1.blt,F1.knd,F1.keep,fun b hb=>⟨.tail _ (F1.locs b hb).1,(F1.locs b hb).2⟩,F1.lns,F1.cels,F1.cinj,F1.cknd⟩
    · refine e1a2 (F.vars y d e) fun v hv hrv=>?_
      refine ⟨v,hv.ext (Keeps.ext k2),(hrv.hide fun b hb=>?_).ext (Keeps.ext k2)⟩
      rcases List.mem_cons.mp hb with rfl | hb
      · exact .inr C0
      · exact .inl hb
    · rcases List.mem_cons.mp ha with rfl | ha
      · exact exC
      · exact F1.mex a ha
  have rD : Rp h' (C :: mt) (.ref D) (.list ((ds.filter pz).map f)):=by
    refine .mkList hl (fun hm=>?_) (hr.hide fun b hb=>.inl ?_)
    · rcases List.mem_cons.mp hm with q | hm
      · exact hDC q
      · exact not_mt F.mex (none_old k0 hD) hm
    · rcases List.mem_cons.mp hb with rfl | hb
      · exact .head _
      · exact .tail _ (.tail _ hb)
  refine wpAny_assign_Name (F2.store (.inl hx) rD fun s₃ F3 k3=>?_)
  refine ⟨m',hn.at' fun o e=>k3.ext C o CL e,fun h'' hs''=>?_⟩
  have C0' : s0.heap.get? C = none:=none_old F.keep C0
  have kC : ∀ b o,b ≠ C→s₃.heap.get? b = some o→h''.get? b = some o:=hs''.extBut
  have F4 : Fm K mg mb s0 env mt ((x,.list ((ds.filter pz).map f)) :: ρ) { s₃ with heap:=h'' }:=by
    refine ⟨F3.gl0,fun y d e=>?_,fun a ha=>?_,F3.glb,F3.blt,F3.knd,?_,F.locs,?_,?_,F3.cinj,F3.cknd⟩
    · refine e1a2 (F3.vars y d e) fun v zs61 hrv=>?_
      refine e0a2 zs61 fun hf hv=>?_
      refine ⟨v,⟨hf,?_⟩,hrv.mono (fun b o hb e=>kC b o (fun q=>hb (q ▸ .head _)) e) fun b hb=>.inl (.tail _ hb)⟩
      rcases hv with ⟨hl,m,hnm,hmx⟩ | ⟨hl,c,hc,o,ho,hd⟩
      · exact .inl ⟨hl,m,hnm.at' fun o e=>kC _ o (fun q=>CL (q ▸ .inl rfl)) e,hmx⟩
      · exact .inr ⟨hl,c,hc,o,kC _ o (fun q=>CL (q ▸ .inr ⟨y,hc⟩)) ho,hd⟩
    · refine e1a1 (F3.mex a (.tail _ ha)) fun o e=>?_
      exact ⟨o,kC a o (fun q=>not_mt F.mex C0 (q ▸ ha)) e⟩
    · refine e2a2 F3.keep fun h₁ t₁ e k=>?_
      refine ⟨h'',t₁,by rw [e],fun b o eb=>kC b o (fun q=>by rw [q,C0'] at eb; cases eb) ?_⟩
      rw [e]; exact k b o eb
    · refine e1a1 F3.lns fun m hm=>?_
      exact ⟨m,hm.at' fun o e=>kC _ o (fun q=>CL (q ▸ .inl rfl)) e⟩
    · intro y c hc
      refine e0a2 (F3.cels y c hc) fun zs62 n=>?_
      refine e2a2 zs62 fun v o ho hd=>?_
      exact ⟨⟨v,o,kC _ o (fun q=>CL (q ▸ .inr ⟨y,hc⟩)) ho,hd⟩,n⟩
  refine h _ F4 ?_
  have k5:=Kl.trans (Kl.of (env:=env) k2) k3
  refine e2a3 k5 fun h₅ t₅ e₅ q₅ v₅=>?_
  refine ⟨h'',t₅,by rw [e₅],fun b o hb e=>kC b o (fun q=>by rw [q,C0] at e; cases e) ?_,fun y vy hy q=>?_⟩
  · rw [e₅]; exact q₅ b o hb e
  · have z : Var env s₃.heap y vy:=by rw [e₅]; exact v₅ y vy hy q
    refine e0a2 z fun hf hv=>?_
    refine ⟨hf,?_⟩
    rcases hv with ⟨hl,m,hnm,hmx⟩ | ⟨hl,c,hc,o,ho,hd⟩
    · exact .inl ⟨hl,m,hnm.at' fun o e=>kC _ o (fun q=>CL (q ▸ .inl rfl)) e,hmx⟩
    · exact .inr ⟨hl,c,hc,o,kC _ o (fun q=>CL (q ▸ .inr ⟨y,hc⟩)) ho,hd⟩
noncomputable def Kb (mt : List Addr) (s s' : Shared) : Prop:=∃ h' tk,s' = { s with heap:=h',toks:=tk }∧∀ b o,b ∉ mt→s.heap.get? b = some o→h'.get? b = some o
theorem Kb.of {s s' : Shared} (k : Keeps s s') : Kb mt s s':=let ⟨h',tk,e,k⟩:=k; ⟨h',tk,e,fun b o _ q=>k b o q⟩
theorem Kb.trans {s s₁ s₂ : Shared} (a : Kb mt s s₁) (b : Kb mt s₁ s₂) : Kb mt s s₂:=by
  obtain ⟨h₁,t₁,rfl,k₁⟩:=a
  obtain ⟨h₂,t₂,rfl,k₂⟩:=b
  exact ⟨h₂,t₂,rfl,fun b o hn e=>k₂ b o hn (k₁ b o hn e)⟩
theorem Kb.ext {s s₁ : Shared} (a : Kb mt s s₁) : ∀ b o,b ∉ mt→s.heap.get? b = some o→s₁.heap.get? b = some o:=by
  obtain ⟨h₁,t₁,rfl,k₁⟩:=a; exact k₁
theorem ex_forR {target iter : Expr} {body rest : List Stmt} {pos : Pos} {ds : List PyData} (F : Fm K mg mb s0 env mt ρ s) (hsrc : SrcHere prog w A env iter ds mt s) (J : List Addr→Nat→Shared→Prop)
    (h0 : ∀ wr s₂,Keeps s s₂→(∀ b ∈ wr,s.heap.get? b = none)→(∀ b ∈ wr,∃ o,s₂.heap.get? b = some o)→J wr 0 s₂)
    (turn : ∀ wr i d v s₁ s₂,ds[i]? = some d→(∀ b ∈ wr,s.heap.get? b = none)→J wr i s₁→Kb wr s₁ s₂→(∀ b ∈ wr,∃ o,s₂.heap.get? b = some o)→Rp s₂.heap (wr ++ mt) v d →
      wpAny (model prog w) A (assign target env v) (fun _ s₃=>wpAny (model prog w) A (execs body env) (fun fl s₄=>match fl with
        | .next | .cont=>J wr (i + 1) s₄∧Kb mt s₂ s₄
        | .brk=>wpAny (model prog w) A (execs rest env) Q E s₄
        | .ret r=>Q (.ret r) s₄) (fun _ _=>False) s₃) (fun _ _=>False) s₂)
    (done : ∀ wr s₁ s₂,(∀ b ∈ wr,s.heap.get? b = none)→J wr ds.length s₁→Kb wr s₁ s₂→wpAny (model prog w) A (execs rest env) Q E s₂)
    (hs : ∀ x,foldedSetIterable iter env x = pure x:=by intro _; rfl) :
    wpAny (model prog w) A (execs (.For target iter body [] pos :: rest) env) Q E s:=by
  refine wpAny_execs_cons (wpAny_For (wpAny_mono (hsrc E) (fun xv s₁ h₁=>wpAny_mono h₁ (fun it s₂ ⟨k0,src⟩=>?_) fun _ _ e=>e) fun _ _ e=>e) hs)
  refine hideG fun zD zhD=>?_
  refine e5a9 src fun I fp wr P St zr63 W hst hfp hwr hP hlot hwex hfm=>?_
  subst zr63
  refine zhD ?_
  clear zhD zD
  refine codeAny_forLoop_any (fun k s'=>∃ i,J wr i s'∧St i s'.heap∧i ≤ ds.length∧k = ds.length + 1 - i∧Kb (wr ++ mt) s₂ s') ?_ (ds.length + 1)
    ⟨0,h0 wr s₂ k0 hwr (hwex 0 _ hst),hst,Nat.zero_le _,rfl,Kb.of Keeps.rfl'⟩
  rintro k s' zhX
  refine hideG fun zD zhD=>?_
  refine e1a5 zhX fun i hJ hst' hi zr64 hkb=>?_
  subst zr64
  refine zhD ?_
  clear zhD zD
  by_cases hlt : i < ds.length
  · refine W.item i _ _ _ hlt hst' fun v h₂ tk₂ hPv hst₂ hk₂=>?_
    refine hideG fun zD zhD=>?_
    refine e1a2 (hP i v hlt hPv) fun d hd hrv=>?_
    refine zhD ?_
    clear zhD zD
    refine hlot (i + 1) target v _ _ _ hst₂ ?_
    have kb1 : Kb wr s' { s' with heap:=h₂,toks:=tk₂ }:=⟨h₂,tk₂,rfl,hk₂⟩
    have kb2 : Kb (wr ++ mt) s₂ { s' with heap:=h₂,toks:=tk₂ }:=by
      refine hideG fun zD zhD=>?_
      refine e2a2 hkb fun h₃ t₃ zr65 q=>?_
      subst zr65
      refine zhD ?_
      clear zhD zD
      exact ⟨h₂,tk₂,rfl,fun b o hb e=>hk₂ b o (fun r=>hb (List.mem_append.mpr (.inl r))) (q b o hb e)⟩
    have hrv₂ : Rp h₂ (wr ++ mt) v d:=hrv.mono (fun b o hb e=>kb2.ext b o hb e) fun _ hb=>.inl hb
    refine wpAny_mono (turn wr i d v s' _ hd hwr hJ kb1 (hwex _ _ hst₂) hrv₂) (fun _ s₃ h₃=>wpAny_mono h₃ (fun fl s₄ h₄=>?_) fun _ _ f=>f.elim) fun _ _ f=>f.elim
    have fin : J wr (i + 1) s₄∧Kb mt { s' with heap:=h₂,toks:=tk₂ } s₄→∃ m,m < ds.length + 1 - i∧∃ i,J wr i s₄∧St i s₄.heap∧i ≤ ds.length∧m = ds.length + 1 - i∧Kb (wr ++ mt) s₂ s₄:=by
      rintro zhX
      refine hideG fun zD zhD=>?_
      refine e0a2 zhX fun hJ' kb3=>?_
      refine zhD ?_
      clear zhD zD
      refine ⟨ds.length + 1 - (i + 1),by omega,i + 1,hJ',W.frame _ _ _ hst₂ fun b hb o e=>kb3.ext b o (hfm b hb) e,hlt,rfl,?_⟩
      refine hideG fun zD zhD=>?_
      refine e2a2 kb2 fun h₃ t₃ e₃ q₃=>?_
      refine e2a2 kb3 fun h₄ t₄ e₄ q₄=>?_
      refine zhD ?_
      clear zhD zD
      refine ⟨h₄,t₄,by rw [e₄,e₃],fun b o hb e=>q₄ b o (fun r=>hb (List.mem_append.mpr (.inr r))) ?_⟩
      rw [e₃]; exact q₃ b o hb e
    cases fl with
    | next=>exact fin h₄
    | cont=>exact fin h₄
    | brk=>exact h₄
    | ret v=>exact h₄
  · have hie : i = ds.length:=by omega
    subst hie
    refine W.done _ _ _ hst' fun h₂ tk₂ hk₂=>wpAny_execs_nil ?_
    exact done wr s' _ hwr hJ ⟨h₂,tk₂,rfl,hk₂⟩
theorem ex_for {target iter : Expr} {body rest : List Stmt} {pos : Pos} {ds : List PyData} (F : Fm K mg mb s0 env mt ρ s) (hsrc : Src prog w K mg mb A env ρ iter ds) (J : List Addr→Nat→Shared→Prop)
    (h0 : ∀ wr s₂,Keeps s s₂→(∀ b ∈ wr,s.heap.get? b = none)→(∀ b ∈ wr,∃ o,s₂.heap.get? b = some o)→J wr 0 s₂)
    (turn : ∀ wr i d v s₁ s₂,ds[i]? = some d→(∀ b ∈ wr,s.heap.get? b = none)→J wr i s₁→Kb wr s₁ s₂→(∀ b ∈ wr,∃ o,s₂.heap.get? b = some o)→Rp s₂.heap (wr ++ mt) v d →
      wpAny (model prog w) A (assign target env v) (fun _ s₃=>wpAny (model prog w) A (execs body env) (fun fl s₄=>match fl with
        | .next | .cont=>J wr (i + 1) s₄∧Kb mt s₂ s₄
        | .brk=>wpAny (model prog w) A (execs rest env) Q E s₄
        | .ret r=>Q (.ret r) s₄) (fun _ _=>False) s₃) (fun _ _=>False) s₂)
    (done : ∀ wr s₁ s₂,(∀ b ∈ wr,s.heap.get? b = none)→J wr ds.length s₁→Kb wr s₁ s₂→wpAny (model prog w) A (execs rest env) Q E s₂)
    (hs : ∀ x,foldedSetIterable iter env x = pure x:=by intro _; rfl) :
    wpAny (model prog w) A (execs (.For target iter body [] pos :: rest) env) Q E s:=ex_forR F (hsrc.here F.sv) J h0 turn done hs
end
end Mine
namespace Mine
open PySem PySem.W PyProof.Rows PySem.Calls
section
variable {α : Type}
open Classical in
noncomputable def inv (enc : α→PyData) (dflt : α) (d : PyData) : α:=if h : ∃ x,enc x = d then h.choose else dflt
theorem inv_enc {enc : α→PyData} {dflt : α} (hi : ∀ x y,enc x = enc y→x = y) (x : α) : inv enc dflt (enc x) = x:=by
  unfold inv
  have h : ∃ y,enc y = enc x:=⟨x,rfl⟩
  rw [dif_pos h]
  exact hi _ _ h.choose_spec
theorem map_inv {β : Type} {enc : α→PyData} {dflt : α} (hi : ∀ x y,enc x = enc y→x = y) (p : α→Bool) (f : α→β) (xs : List α) :
    (((xs.map enc).filter fun d=>p (inv enc dflt d)).map fun d=>f (inv enc dflt d)) = (xs.filter p).map f:=by
  induction xs with
  | nil=>rfl
  | cons x xs ih =>
    rw [List.map_cons]
    cases hp : p x with
    | true =>
      rw [List.filter_cons_of_pos (by rw [inv_enc hi]; exact hp),List.filter_cons_of_pos hp,List.map_cons,List.map_cons,ih,inv_enc hi]
    | false =>
      rw [List.filter_cons_of_neg (by rw [inv_enc hi,hp]; decide),List.filter_cons_of_neg (by rw [hp]; decide),ih]
end
section
variable {prog : Program} {w : World} {K : Frag} {mg mb : Str→Option Value} {A : Around} {env : Env} {ρ : List (Str × PyData)} {s0 s : Shared} {mt : List Addr} {E : Value→Shared→Prop} {Q : Flow→Shared→Prop} {α : Type} [Inhabited α]
theorem pe_compT {elt target iter : Expr} {ifs : List Expr} {scope : Scope} {pos : Pos} (cl : List (Str × Addr)) (xs : List α) (enc : α→PyData) (hi : ∀ x y,enc x = enc y→x = y) (bd : α→List (Str × PyData)) (ρf : List (Str × PyData))
    (p : α→Bool) (f : α→PyData)
    (hsrc : Src prog w K mg mb A env ρ iter (xs.map enc))
    (hclos : closureFor scope env = pure cl) (hcell : ∀ y ∈ scope.names,y.2 ≠ .cell) (hkind : scope.kind = .function) (hnames : ∀ y ∈ scope.names,y.2 = .local→scope.names.lookup y.1 = some .local)
    (hfree : FreeOk env scope cl ρ ρf)
    (htgt : ∀ C x,x ∈ xs→Tgt prog w A (compEnvC scope cl C env) target (enc x) (bd x))
    (htest : ∀ C x,x ∈ xs→PTs prog w K mg mb A (compEnvC scope cl C env) (bd x ++ ρf) ifs (p x))
    (helt : ∀ C x,x ∈ xs→p x = true→PE prog w K mg mb A (compEnvC scope cl C env) (bd x ++ ρf) elt (f x))
    (hz : xs.length ≤ sizeLine) (hs : ∀ x,foldedSetIterable iter env x = pure x:=by intro _; rfl) :
    PE prog w K mg mb A env ρ (.ListComp elt [⟨target,iter,ifs,0⟩] scope pos) (.list ((xs.filter p).map f)):=by
  have z:=pe_comp (pos:=pos) cl (fun d=>bd (inv enc default d)) ρf (fun d=>p (inv enc default d)) (fun d=>f (inv enc default d)) hsrc hclos hcell hkind hnames hfree
    (fun C d hd=>by obtain ⟨x,hx,rfl⟩:=List.mem_map.mp hd; rw [inv_enc hi]; exact htgt C x hx)
    (fun C d hd=>by obtain ⟨x,hx,rfl⟩:=List.mem_map.mp hd; rw [inv_enc hi]; exact htest C x hx)
    (fun C d hd hp=>by obtain ⟨x,hx,rfl⟩:=List.mem_map.mp hd; rw [inv_enc hi] at hp ⊢; exact helt C x hx hp) (by rw [List.length_map]; exact hz) hs
  rw [map_inv hi] at z
  exact z
theorem ex_assign_compT {y : Str} {pp : Pos} {elt target iter : Expr} {ifs : List Expr} {scope : Scope} {pos spos : Pos} {rest : List Stmt} (cl : List (Str × Addr)) (xs : List α) (enc : α→PyData) (hi : ∀ x y,enc x = enc y→x = y) (bd : α→List (Str × PyData)) (ρf : List (Str × PyData))
    (p : α→Bool) (f : α→PyData) (F : Fm K mg mb s0 env mt ρ s) (hx : env.kindOf y = some .local)
    (hsrc : Src prog w K mg mb A env ρ iter (xs.map enc))
    (hclos : closureFor scope env = pure cl) (hcell : ∀ y ∈ scope.names,y.2 ≠ .cell) (hkind : scope.kind = .function) (hnames : ∀ y ∈ scope.names,y.2 = .local→scope.names.lookup y.1 = some .local)
    (hfree : FreeOk env scope cl ρ ρf)
    (htgt : ∀ C x,x ∈ xs→Tgt prog w A (compEnvC scope cl C env) target (enc x) (bd x))
    (htest : ∀ C x,x ∈ xs→PTs prog w K mg mb A (compEnvC scope cl C env) (bd x ++ ρf) ifs (p x))
    (helt : ∀ C x,x ∈ xs→p x = true→PE prog w K mg mb A (compEnvC scope cl C env) (bd x ++ ρf) elt (f x))
    (hz : xs.length ≤ sizeLine)
    (h : ∀ s',Fm K mg mb s0 env mt ((y,.list ((xs.filter p).map f)) :: ρ) s'→Kl env [y] s s'→wpAny (model prog w) A (execs rest env) Q E s')
    (hsw : swapsWith (.ListComp elt [⟨target,iter,ifs,0⟩] scope pos) (some (.Name y pp)) spos.line env = pure true:=by rfl)
    (hs : ∀ x,foldedSetIterable iter env x = pure x:=by intro _; rfl) :
    wpAny (model prog w) A (execs (.Assign [.Name y pp] (.ListComp elt [⟨target,iter,ifs,0⟩] scope pos) spos :: rest) env) Q E s:=by
  refine ex_assign_comp cl (fun d=>bd (inv enc default d)) ρf (fun d=>p (inv enc default d)) (fun d=>f (inv enc default d)) F hx hsrc hclos hcell hkind hnames hfree
    (fun C d hd=>by obtain ⟨x,hx,rfl⟩:=List.mem_map.mp hd; rw [inv_enc hi]; exact htgt C x hx)
    (fun C d hd=>by obtain ⟨x,hx,rfl⟩:=List.mem_map.mp hd; rw [inv_enc hi]; exact htest C x hx)
    (fun C d hd hp=>by obtain ⟨x,hx,rfl⟩:=List.mem_map.mp hd; rw [inv_enc hi] at hp ⊢; exact helt C x hx hp) (by rw [List.length_map]; exact hz) ?_ hsw hs
  rw [map_inv hi]
  exact h
theorem src_rangeI {e : Expr} {p pos : Pos} {n : Nat} (hh : A.handled = none) (hk : env.kindOf "range" = some .globalImplicit) (hg : mg "range" = none) (hb : mb "range" = some (.type "range")) (h : PE prog w K mg mb A env ρ e (.int n)) (hn : n < 2 ^ 62)
    (he : ∀ rest,starEach (e :: rest) env = (false,eval e env) :: starEach rest env:=by intro _; rfl) :
    Src prog w K mg mb A env ρ (.Call (.Name "range" p) [e] [] pos) (((List.range n).map fun i : Nat=>(i : Int)).map .int):=by
  have z:=src_range (p:=p) (pos:=pos) hh hk hg hb h hn he
  rw [List.map_map]
  exact z
end
structure Nm (mg mb : Str→Option Value) : Prop where
  range : mg "range" = none∧mb "range" = some (.type "range")
  len : mg "len" = none∧mb "len" = some (.builtin "len")
  min : mg "min" = none∧mb "min" = some (.builtin "min")
  max : mg "max" = none∧mb "max" = some (.builtin "max")
  sum : mg "sum" = none∧mb "sum" = some (.builtin "sum")
  sorted : mg "sorted" = none∧mb "sorted" = some (.builtin "sorted")
  enumerate : mg "enumerate" = none∧mb "enumerate" = some (.type "enumerate")
  list : mg "list" = none∧mb "list" = some (.type "list")
  object : mg "object" = none∧mb "object" = some (.type "object")
  iter : mg "iter" = none∧mb "iter" = some (.builtin "iter")
  set : mg "set" = none∧mb "set" = some (.type "set")
  tuple : mg "tuple" = none∧mb "tuple" = some (.type "tuple")
  type : mg "type" = none∧mb "type" = some (.type "type")
  issubclass : mg "issubclass" = none∧mb "issubclass" = some (.builtin "issubclass")
  stopIteration : mg "StopIteration" = none∧mb "StopIteration" = some (.type "StopIteration")
end Mine
namespace Mine
open PySem PySem.W PyProof.Rows PySem.Calls
noncomputable def Sub (ρ : List (Str × PyData)) : List (Str × PyData)→Prop
  | []=>True
  | (x,d) :: r=>ρ.lookup x = some d∧Sub ρ r
theorem Sub.get {ρ : List (Str × PyData)} : ∀ {l : List (Str × PyData)},Sub ρ l→∀ y d,l.lookup y = some d→ρ.lookup y = some d
  | [],_,_,_,e=>by cases e
  | (x,d') :: r,h,y,d,e=>by
    rcases lookup_put e with ⟨rfl,rfl⟩ | ⟨_,e⟩
    · exact h.1
    · exact h.2.get y d e
section
variable {K : Frag} {mg mb : Str→Option Value} {env : Env} {ρ : List (Str × PyData)} {s0 s s₁ s₂ : Shared} {mt wr : List Addr}
theorem Fm.to (F : Fm K mg mb s0 env mt ρ s) (ρ' : List (Str × PyData)) (h : Sub ρ ρ') : Fm K mg mb s0 env mt ρ' s:=F.weak h.get
theorem Fm.notLoc (F : Fm K mg mb s0 env mt ρ s) (hw : ∀ b ∈ wr,s.heap.get? b = none) : ∀ b ∈ wr,¬ Loc env b:=fun b hb hl=>not_mt F.mex (hw b hb) (F.locs b hl).1
theorem Fm.new0 (F : Fm K mg mb s0 env mt ρ s) (hw : ∀ b ∈ wr,s.heap.get? b = none) : ∀ b ∈ wr,s0.heap.get? b = none:=fun b hb=>none_old F.keep (hw b hb)
theorem Fm.start (F : Fm K mg mb s0 env mt ρ s) (k : Keeps s s₂) (hw : ∀ b ∈ wr,s.heap.get? b = none) (hex : ∀ b ∈ wr,∃ o,s₂.heap.get? b = some o) : Fm K mg mb s0 env (wr ++ mt) ρ s₂:=by
  obtain ⟨h',tk,rfl,k'⟩:=k
  refine F.turn (fun b hb=>List.mem_append.mpr (.inr hb)) (fun b hb=>?_) (fun a ha=>?_) (fun b o _ e=>k' b o e) fun b o e=>k' b o (Keeps.ext F.keep b o e)
  · rcases List.mem_append.mp hb with h | h
    · exact .inr (hw b h)
    · exact .inl h
  · rcases List.mem_append.mp ha with h | h
    · exact hex a h
    · obtain ⟨o,e⟩:=F.mex a h; exact ⟨o,k' a o e⟩
theorem Fm.iter (F : Fm K mg mb s0 env (wr ++ mt) ρ s₁) (k : Kb wr s₁ s₂) (hL : ∀ b ∈ wr,¬ Loc env b) (h0 : ∀ b ∈ wr,s0.heap.get? b = none) (hex : ∀ b ∈ wr,∃ o,s₂.heap.get? b = some o) : Fm K mg mb s0 env (wr ++ mt) ρ s₂:=by
  obtain ⟨h',tk,rfl,k'⟩:=k
  have hex' : ∀ a,(∃ o,s₁.heap.get? a = some o)→∃ o,h'.get? a = some o:=fun a ⟨o,e⟩=>by
    by_cases q : a ∈ wr
    · exact hex a q
    · exact ⟨o,k' a o q e⟩
  refine F.turn (fun b hb=>hb) (fun b hb=>.inl hb) (fun a ha=>hex' a (F.mex a ha)) (fun b o hb e=>k' b o (fun q=>hL b q (hb (List.mem_append.mpr (.inl q)))) e) fun b o e=>k' b o (fun q=>?_) (Keeps.ext F.keep b o e)
  rw [h0 b q] at e; cases e
theorem Fm.fin (F : Fm K mg mb s0 env (wr ++ mt) ρ s₁) (k : Kb wr s₁ s₂) (hm : ∀ b,Loc env b→b ∈ mt) (hd : ∀ b ∈ wr,b ∉ mt) (h0 : ∀ b ∈ wr,s0.heap.get? b = none) : Fm K mg mb s0 env mt ρ s₂:=by
  refine e2a2 k fun h' tk zr267 k'=>?_
  subst zr267
  have kl : ∀ b o,Loc env b→s₁.heap.get? b = some o→h'.get? b = some o:=fun b o hl e=>k' b o (fun q=>hd b q (hm b hl)) e
  refine ⟨F.gl0,fun y d e=>?_,fun a ha=>?_,F.glb,F.blt,F.knd,?_,fun b hb=>⟨hm b hb,(F.locs b hb).2⟩,?_,?_,F.cinj,F.cknd⟩
  · refine e1a2 (F.vars y d e) fun v zs268 hr=>?_
    refine e0a2 zs268 fun hf hv=>?_
    refine ⟨v,⟨hf,?_⟩,hr.mono (fun b o hb e=>k' b o (fun q=>hb (List.mem_append.mpr (.inl q))) e) fun b hb=>.inl (List.mem_append.mpr (.inr hb))⟩
    rcases hv with ⟨hl,m,hn,hmx⟩ | ⟨hl,c,hc,o,ho,hdc⟩
    · exact .inl ⟨hl,m,hn.at' fun o e=>kl _ o (.inl rfl) e,hmx⟩
    · exact .inr ⟨hl,c,hc,o,kl _ o (.inr ⟨y,hc⟩) ho,hdc⟩
  · refine e1a1 (F.mex a (List.mem_append.mpr (.inr ha))) fun o e=>?_
    exact ⟨o,k' a o (fun q=>hd a q ha) e⟩
  · refine e2a2 F.keep fun h₁ t₁ e q=>?_
    refine ⟨h',tk,by rw [e],fun b o eb=>k' b o (fun r=>?_) ?_⟩
    · rw [h0 b r] at eb; cases eb
    · rw [e]; exact q b o eb
  · refine e1a1 F.lns fun m h=>?_
    exact ⟨m,h.at' fun o e=>kl _ o (.inl rfl) e⟩
  · intro y c e
    refine e0a2 (F.cels y c e) fun zs269 n=>?_
    refine e2a2 zs269 fun v o ho hdc=>?_
    exact ⟨⟨v,o,kl _ o (.inr ⟨y,e⟩) ho,hdc⟩,n⟩
theorem Kl.kb' {xs : List Str} {s s' : Shared} (hm : ∀ b,Loc env b→b ∈ mt) (k : Kl env xs s s') : Kb mt s s':=let ⟨h',tk,e,k,_⟩:=k; ⟨h',tk,e,fun b o hb q=>k b o (fun hl=>hb (hm b hl)) q⟩
end
section
variable {prog : Program} {w : World} {K : Frag} {mg mb : Str→Option Value} {A : Around} {env : Env} {ρ : List (Str × PyData)} {s0 s : Shared} {mt : List Addr} {E : Value→Shared→Prop} {Q : Flow→Shared→Prop}
theorem Var.kb {s₁ s₂ : Shared} {wr : List Addr} {y : Str} {v : Value} (a : Var env s₁.heap y v) (k : Kb wr s₁ s₂) (hL : ∀ b ∈ wr,¬ Loc env b) : Var env s₂.heap y v:=by
  refine e2a2 k fun h' tk zr270 k'=>?_
  subst zr270
  have kl : ∀ b o,Loc env b→s₁.heap.get? b = some o→h'.get? b = some o:=fun b o hl e=>k' b o (fun q=>hL b q hl) e
  refine e0a2 a fun hf hv=>?_
  refine ⟨hf,?_⟩
  rcases hv with ⟨hl,m,hn,hmx⟩ | ⟨hl,c,hc,o,ho,hd⟩
  · exact .inl ⟨hl,m,hn.at' fun o e=>kl _ o (.inl rfl) e,hmx⟩
  · exact .inr ⟨hl,c,hc,o,kl _ o (.inr ⟨y,hc⟩) ho,hd⟩
theorem ex_forP {x : Str} {px : Pos} {iter : Expr} {body rest : List Stmt} {pos : Pos} {ds : List PyData} (xs : List Str) (R : Nat→List (Str × PyData)) (F : Fm K mg mb s0 env mt ρ s) (hsrc : Src prog w K mg mb A env ρ iter ds)
    (hx : env.kindOf x = some .local ∨ env.kindOf x = some .cell)
    (h0 : Sub ρ (R 0))
    (turn : ∀ i d mt' s',ds[i]? = some d→(∀ b ∈ mt,b ∈ mt')→Fm K mg mb s0 env mt' ((x,d) :: R i) s' →
      wpAny (model prog w) A (execs body env) (fun fl s₄=>match fl with
        | .next | .cont=>Fm K mg mb s0 env mt' (R (i + 1)) s₄∧Kl env xs s' s₄
        | _=>False) (fun _ _=>False) s')
    (done : ∀ s',Fm K mg mb s0 env mt (R ds.length) s'→Kl env (x :: xs) s s'→wpAny (model prog w) A (execs rest env) Q E s')
    (hs : ∀ x,foldedSetIterable iter env x = pure x:=by intro _; rfl) :
    wpAny (model prog w) A (execs (.For (.Name x px) iter body [] pos :: rest) env) Q E s:=by
  have hm : ∀ b,Loc env b→b ∈ mt:=fun b hb=>(F.locs b hb).1
  refine ex_for F hsrc (fun wr i s'=>Fm K mg mb s0 env (wr ++ mt) (R i) s'∧∃ h' tk,s' = { s with heap:=h',toks:=tk }∧(∀ b o,b ∉ wr→¬ Loc env b→s.heap.get? b = some o→h'.get? b = some o)∧∀ y v,y ∉ x :: xs→Var env s.heap y v→Var env h' y v) ?_ ?_ ?_ hs
  · intro wr s₂ k hw hex
    refine ⟨(F.start k hw hex).to _ h0,?_⟩
    refine hideG fun zD zhD=>?_
    refine e2a2 k fun h' tk zr271 q=>?_
    subst zr271
    refine zhD ?_
    clear zhD zD
    exact ⟨h',tk,rfl,fun b o _ _ e=>q b o e,fun y v _ a=>a.ext q⟩
  · intro wr i d v s₁ s₂ hd hw zi265 k hex hr
    refine e0a2 zi265 fun J1 J2=>?_
    have F2:=J1.iter k (F.notLoc hw) (F.new0 hw) hex
    refine wpAny_assign_Name (F2.store hx hr fun s₃ F3 k3=>wpAny_mono (turn i d _ s₃ hd (fun b hb=>List.mem_append.mpr (.inr hb)) F3) (fun fl s₄ h4=>?_) fun _ _ f=>f)
    have fin : Fm K mg mb s0 env (wr ++ mt) (R (i + 1)) s₄∧Kl env xs s₃ s₄→(Fm K mg mb s0 env (wr ++ mt) (R (i + 1)) s₄∧∃ h' tk,s₄ = { s with heap:=h',toks:=tk }∧(∀ b o,b ∉ wr→¬ Loc env b→s.heap.get? b = some o→h'.get? b = some o)∧∀ y v,y ∉ x :: xs→Var env s.heap y v→Var env h' y v)∧Kb mt s₂ s₄:=by
      rintro zhX
      refine hideG fun zD zhD=>?_
      refine e0a2 zhX fun F4 k4=>?_
      refine zhD ?_
      clear zhD zD
      have k24:=Kl.trans (k3.mono (ys:=x :: xs) fun y hy=>by rcases List.mem_cons.mp hy with rfl | hy; exact .head _; cases hy) (k4.mono (ys:=x :: xs) fun y hy=>.tail _ hy)
      refine ⟨⟨F4,?_⟩,k24.kb' hm⟩
      have kk:=k
      refine hideG fun zD zhD=>?_
      refine e2a3 J2 fun h₁ t₁ e₁ q₁ v₁=>?_
      refine e2a2 k fun h₂ t₂ e₂ q₂=>?_
      refine e2a3 k24 fun h₄ t₄ e₄ q₄ v₄=>?_
      refine zhD ?_
      clear zhD zD
      refine ⟨h₄,t₄,by rw [e₄,e₂,e₁],fun b o hb hl e=>q₄ b o hl ?_,fun y vy hy a=>v₄ y vy hy ?_⟩
      · rw [e₂]
        refine q₂ b o hb ?_
        rw [e₁]
        exact q₁ b o hb hl e
      · refine Var.kb (s₁:=s₁) ?_ kk (F.notLoc hw)
        rw [e₁]
        exact v₁ y vy hy a
    cases fl with
    | next=>exact fin h4
    | cont=>exact fin h4
    | brk=>exact h4.elim
    | ret v=>exact h4.elim
  · intro wr s₁ s₂ hw zi266 k
    refine e0a2 zi266 fun J1 J2=>?_
    refine done s₂ (J1.fin k hm (fun b hb q=>not_mt F.mex (hw b hb) q) (F.new0 hw)) ?_
    have kk:=k
    refine hideG fun zD zhD=>?_
    refine e2a3 J2 fun h₁ t₁ e₁ q₁ v₁=>?_
    refine e2a2 k fun h₂ t₂ e₂ q₂=>?_
    refine zhD ?_
    clear zhD zD
    refine ⟨h₂,t₂,by rw [e₂,e₁],fun b o hl e=>?_,fun y vy hy a=>?_⟩
    · have hb : b ∉ wr:=fun r=>by rw [hw b r] at e; cases e
      refine q₂ b o hb ?_
      rw [e₁]
      exact q₁ b o hb hl e
    · have z:=Var.kb (s₁:=s₁) (s₂:=s₂) (y:=y) (v:=vy) (by rw [e₁]; exact v₁ y vy hy a) kk (F.notLoc hw)
      rw [e₂] at z
      exact z
end
end Mine
namespace Mine
open PySem PySem.W PyProof.Rows PySem.Calls
section
variable {prog : Program} {w : World} {K : Frag} {mg mb : Str→Option Value} {A : Around} {env : Env} {ρ ρ' : List (Str × PyData)} {s0 s s' : Shared} {mt : List Addr} {E : Value→Shared→Prop} {Q : Flow→Shared→Prop} {xs : List Str}
theorem Fm.storeV {x : Str} {v : Value} {Q : Unit→Shared→Prop} (F : Fm K mg mb s0 env mt ρ s) (hx : env.kindOf x = some .local ∨ env.kindOf x = some .cell) (ρ' : List (Str × PyData)) (hs : Sub ρ ρ') (hn : ρ'.lookup x = none)
    (h : ∀ s',Fm K mg mb s0 env mt ρ' s'→Var env s'.heap x v→Kl env [x] s s'→Q () s') : wpAny (model prog w) A (storeName env x v) Q E s :=
  fm_raw F hx fun s' h1 h2 h3 h4 h5=>h s' (h5 _ fun y dy hy=>by
    have hne : y ≠ x:=fun q=>by rw [q,hn] at hy; cases hy
    refine e1a2 (F.vars y dy (hs.get y dy hy)) fun vy hv hry=>?_
    exact ⟨vy,h3 y vy hne hv,hry⟩) h4 (by
      refine e2a1 h1 fun h' tk zr294=>?_
      subst zr294
      exact ⟨h',tk,rfl,h2,fun y vy hy q=>h3 y vy (fun z=>hy (z ▸ .head _)) q⟩)
theorem Kl.rp {v : Value} {d : PyData} (k : Kl env xs s s') (F : Fm K mg mb s0 env mt ρ s) (r : Rp s.heap mt v d) : Rp s'.heap mt v d :=
  r.mono (fun b o hb e=>k.ext b o (fun hl=>hb (F.locs b hl).1) e) fun _ hb=>.inl hb
theorem Kl.rpA {v : List Value} {d : List PyData} (k : Kl env xs s s') (F : Fm K mg mb s0 env mt ρ s) (r : RpA s.heap mt v d) : RpA s'.heap mt v d :=
  r.mono (fun b o hb e=>k.ext b o (fun hl=>hb (F.locs b hl).1) e) fun _ hb=>.inl hb
theorem ex_newlist {x : Str} {p lp pos : Pos} {rest : List Stmt} (F : Fm K mg mb s0 env mt ρ s) (hx : env.kindOf x = some .local ∨ env.kindOf x = some .cell) (ρ' : List (Str × PyData)) (hs : Sub ρ ρ') (hn : ρ'.lookup x = none)
    (h : ∀ s' a,s.heap.get? a = none→¬ Loc env a→Fm K mg mb s0 env (a :: mt) ρ' s'→Var env s'.heap x (.ref a)→s'.heap.PlainList a (([] : List Value).toArray)→Kl env [x] s s'→wpAny (model prog w) A (execs rest env) Q E s') :
    wpAny (model prog w) A (execs (.Assign [.Name x p] (.List [] lp) pos :: rest) env) Q E s:=by
  refine wpAny_execs_cons (wpAny_Assign_Name (wpAny_List (wpAny_items_nil ⟨by decide,?_⟩)) rfl)
  have an : s.heap.get? s.heap.objs.size = none:=by
    cases e : s.heap.get? s.heap.objs.size with
    | none=>rfl
    | some o=>exact absurd (Heap.lt_size e) (Nat.lt_irrefl _)
  generalize ha : s.heap.objs.size = a at an ⊢
  have ho : (s.heap.push { cls:=.type "list",data:=.seq ([] : List Value).toArray }).get? a = some { cls:=.type "list",data:=.seq ([] : List Value).toArray }:=by rw [← ha]; exact Heap.get?_push_size _ rfl
  have F1:=F.start (wr:=[a]) (Keeps.push { cls:=.type "list",data:=.seq ([] : List Value).toArray }) (fun b hb=>by rcases List.mem_cons.mp hb with rfl | hb; exact an; cases hb)
    (fun b hb=>by rcases List.mem_cons.mp hb with rfl | hb; exact ⟨_,ho⟩; cases hb)
  have aL : ¬ Loc env a:=fun hl=>not_mt F.mex an (F.locs a hl).1
  refine F1.storeV hx ρ' hs hn fun s₂ F2 hv k=>h s₂ a an aL F2 hv ?_ (Kl.trans (Kl.of (Keeps.push _)) k)
  exact ⟨0,k.ext a _ aL ho⟩
structure Ow (env : Env) (x : Str) (a : Addr) (mt : List Addr) (ds : List PyData) (s : Shared) : Prop where
  var : Var env s.heap x (.ref a)
  lst : ∃ vs : List Value,s.heap.PlainList a vs.toArray∧RpA s.heap mt vs ds
theorem Ow.kl {x : Str} {a : Addr} {ds : List PyData} (o : Ow env x a mt ds s) (k : Kl env xs s s') (F : Fm K mg mb s0 env mt ρ s) (hx : x ∉ xs) (aL : ¬ Loc env a) : Ow env x a mt ds s' :=
  ⟨k.var _ _ hx o.var,let ⟨vs,h1,h2⟩:=o.lst; ⟨vs,h1.at fun ob e=>k.ext a ob aL e,k.rpA F h2⟩⟩
theorem Ow.keeps {x : Str} {a : Addr} {ds : List PyData} (o : Ow env x a mt ds s) (k : Keeps s s') : Ow env x a mt ds s' :=
  ⟨o.var.ext (Keeps.ext k),let ⟨vs,h1,h2⟩:=o.lst; ⟨vs,h1.at fun ob e=>Keeps.ext k a ob e,h2.ext (Keeps.ext k)⟩⟩
theorem Ow.kb {x : Str} {a : Addr} {wr : List Addr} {ds : List PyData} (o : Ow env x a (wr ++ mt) ds s) (k : Kb wr s s') (hL : ∀ b ∈ wr,¬ Loc env b) (ha : a ∉ wr) : Ow env x a (wr ++ mt) ds s' :=
  ⟨o.var.kb k hL,let ⟨vs,h1,h2⟩:=o.lst; ⟨vs,h1.at fun ob e=>k.ext a ob ha e,h2.mono (fun b ob hb e=>k.ext b ob (fun q=>hb (List.mem_append.mpr (.inl q))) e) fun _ hb=>.inl hb⟩⟩
theorem Ow.start {x : Str} {a : Addr} {wr : List Addr} {ds : List PyData} (o : Ow env x a mt ds s) (k : Keeps s s') (hw : ∀ b ∈ wr,s.heap.get? b = none) : Ow env x a (wr ++ mt) ds s' :=
  ⟨o.var.ext (Keeps.ext k),let ⟨vs,h1,h2⟩:=o.lst; ⟨vs,h1.at fun ob e=>Keeps.ext k a ob e,(h2.hide fun b hb=>(List.mem_append.mp hb).elim (fun q=>.inr (hw b q)) fun q=>.inl q).ext (Keeps.ext k)⟩⟩
theorem Ow.fin {x : Str} {a : Addr} {wr : List Addr} {ds : List PyData} (o : Ow env x a (wr ++ mt) ds s) (k : Kb wr s s') (hL : ∀ b ∈ wr,¬ Loc env b) (ha : a ∉ wr) : Ow env x a mt ds s' :=
  ⟨o.var.kb k hL,let ⟨vs,h1,h2⟩:=o.lst; ⟨vs,h1.at fun ob e=>k.ext a ob ha e,h2.mono (fun b ob hb e=>k.ext b ob (fun q=>hb (List.mem_append.mpr (.inl q))) e) fun _ hb=>.inl (List.mem_append.mpr (.inr hb))⟩⟩
theorem ex_append {x : Str} {p1 ap cp ep : Pos} {e : Expr} {rest : List Stmt} {a : Addr} {vs : List Value} {d : PyData} (F : Fm K mg mb s0 env mt ρ s) (hv : Var env s.heap x (.ref a)) (hl : s.heap.PlainList a vs.toArray) (ha : a ∈ mt) (aL : ¬ Loc env a) (a0 : s0.heap.get? a = none)
    (he : PE prog w K mg mb A env ρ e d) (hz : vs.length < sizeLine)
    (h : ∀ s' v,Fm K mg mb s0 env mt ρ s'→(∀ y u,Var env s.heap y u→Var env s'.heap y u)→s'.heap.PlainList a (vs ++ [v]).toArray→Rp s'.heap mt v d→(∃ h' tk,s' = { s with heap:=h',toks:=tk })→(∀ b o,b ≠ a→s.heap.get? b = some o→s'.heap.get? b = some o) →
      wpAny (model prog w) A (execs rest env) Q E s')
    (hst : ∀ rest,starEach (e :: rest) env = (false,eval e env) :: starEach rest env:=by intro _; rfl)
    (hd : (x == ("__debug__" : Str)) = false:=by decide) (hline : (ap.endLine == cp.line) = true:=by rfl) (hi : interactive env = false:=by rfl) :
    wpAny (model prog w) A (execs (.Expr (.Call (.Attribute (.Name x p1) "append" ap) [e] [] cp) ep :: rest) env) Q E s:=by
  have ht : backTo cp (starEach [e] env) = [(false,eval e env)]:=by rw [hst]; rfl
  refine wpAny_execs_cons (wpAny_Expr (wpAny_Call_append rfl (by rw [ht]; rfl) hline ht (wpAny_Name (hv.load ?_) hd)) hi rfl)
  refine e1a1 hl fun n ho=>?_
  refine ⟨a,vs.toArray,rfl,⟨_,n,ho,rfl,rfl,rfl⟩,wpAny_mono (he E s mt F.sv) (fun v s₁ ⟨k1,r1⟩=>?_) fun _ _ e=>e⟩
  refine append_at (hsz:=by simp; lia) (Keeps.ext k1 _ _ ho) fun h' hs' ho'=>?_
  have F1:=F.keeps k1
  have kb : ∀ b o,b ≠ a→s₁.heap.get? b = some o→h'.get? b = some o:=hs'.extBut
  have F2 : Fm K mg mb s0 env mt ρ { s₁ with heap:=h',toks:=s₁.toks }:=by
    refine F1.turn (fun _ hb=>hb) (fun _ hb=>.inl hb) (fun b hb=>?_) (fun b o hb e=>kb b o (fun q=>aL (q ▸ hb (q ▸ ha))) e) fun b o e=>kb b o (fun q=>by rw [q,a0] at e; cases e) (Keeps.ext F1.keep b o e)
    by_cases q : b = a
    · subst q; exact ⟨_,ho'⟩
    · obtain ⟨o,e⟩:=F1.mex b hb; exact ⟨o,kb b o q e⟩
  have r2 : Rp h' mt v d:=rp_but r1 ha kb
  refine h _ v F2 (fun y u hy=>?_) ⟨n + 1,by rw [ho']; simp⟩ r2 ?_ fun b o hb e=>kb b o hb (Keeps.ext k1 b o e)
  · exact Var.kb (s₁:=s₁) (hy.ext (Keeps.ext k1)) (⟨h',s₁.toks,rfl,fun b o hb e=>kb b o (fun q=>hb (q ▸ .head _)) e⟩ : Kb [a] s₁ { s₁ with heap:=h',toks:=s₁.toks }) fun b hb=>by rcases List.mem_cons.mp hb with rfl | hb; exact aL; cases hb
  · refine e2a2 k1 fun h₁ t₁ zr295 _=>?_
    subst zr295
    exact ⟨h',_,rfl⟩
theorem ex_appendO {x : Str} {p1 ap cp ep : Pos} {e : Expr} {rest : List Stmt} {a : Addr} {ds : List PyData} {d : PyData} (F : Fm K mg mb s0 env mt ρ s) (o : Ow env x a mt ds s) (ha : a ∈ mt) (aL : ¬ Loc env a) (a0 : s0.heap.get? a = none)
    (he : PE prog w K mg mb A env ρ e d) (hz : ds.length < sizeLine)
    (h : ∀ s',Fm K mg mb s0 env mt ρ s'→Ow env x a mt (ds ++ [d]) s'→(∀ y u,Var env s.heap y u→Var env s'.heap y u)→Kb [a] s s'→wpAny (model prog w) A (execs rest env) Q E s')
    (hst : ∀ rest,starEach (e :: rest) env = (false,eval e env) :: starEach rest env:=by intro _; rfl)
    (hd : (x == ("__debug__" : Str)) = false:=by decide) (hline : (ap.endLine == cp.line) = true:=by rfl) (hi : interactive env = false:=by rfl) :
    wpAny (model prog w) A (execs (.Expr (.Call (.Attribute (.Name x p1) "append" ap) [e] [] cp) ep :: rest) env) Q E s:=by
  refine e1a2 o.lst fun vs h1 h2=>?_
  refine ex_append F o.var h1 ha aL a0 he (by rw [h2.length]; exact hz) (fun s' v F' hv hl hr ⟨h',tk,e⟩ kb=>h s' F' ⟨hv _ _ o.var,vs ++ [v],hl,?_⟩ hv ?_) hst hd hline hi
  · exact (rpA_but h2 ha kb).snoc hr
  · exact ⟨h',tk,e,fun b ob hb q=>by have:=kb b ob (fun r=>hb (r ▸ .head _)) q; rw [e] at this; exact this⟩
theorem ex_retO {x : Str} {p pos : Pos} {rest : List Stmt} {a : Addr} {ds : List PyData} (o : Ow env x a mt ds s) (h : Q (.ret (.ref a)) s) (hd : (x == ("__debug__" : Str)) = false:=by decide) :
    wpAny (model prog w) A (execs (.Return (some (.Name x p)) pos :: rest) env) Q E s :=
  wpAny_execs_cons (wpAny_Return_some (wpAny_Name (o.var.load h) hd))
theorem Ow.rp {x : Str} {a : Addr} {ds : List PyData} {mt' : List Addr} (o : Ow env x a mt ds s) (ha : a ∉ mt') (hm : ∀ b ∈ mt',b ∈ mt) : Rp s.heap mt' (.ref a) (.list ds) :=
  let ⟨_,h1,h2⟩:=o.lst; .mkList h1 ha (h2.hide fun b hb=>.inl (hm b hb))
theorem Kb.mono {mt mt' : List Addr} {s s' : Shared} (k : Kb mt s s') (h : ∀ b ∈ mt,b ∈ mt') : Kb mt' s s':=let ⟨h',tk,e,k⟩:=k; ⟨h',tk,e,fun b o hb q=>k b o (fun r=>hb (h b r)) q⟩
theorem ex_pair {x y : Str} {px py tp vp pos : Pos} {k k' : Nat} {e1 e2 : Expr} {rest : List Stmt} {d1 d2 : PyData} (hA : Aok 0 A) (F : Fm K mg mb s0 env mt ρ s) (hx : env.kindOf x = some .local) (hy : env.kindOf y = some .local) (hxy : x ≠ y) (he : PEs prog w K mg mb A env ρ [e1,e2] [d1,d2])
    (h : ∀ s',Fm K mg mb s0 env mt ((x,d1) :: (y,d2) :: ρ) s'→Kl env [x,y] s s'→wpAny (model prog w) A (execs rest env) Q E s')
    (hsw : swappedStores [.Tuple [.Name x px,.Name y py] k tp] (.Tuple [e1,e2] k' vp) env = pure (some [x,y])) :
    wpAny (model prog w) A (execs (.Assign [.Tuple [.Name x px,.Name y py] k tp] (.Tuple [e1,e2] k' vp) pos :: rest) env) Q E s:=by
  refine wpAny_execs_cons ?_
  show wpAny _ A (do
    standAt pos
    if ← swapsWithSole [.Tuple [.Name x px,.Name y py] k tp] (.Tuple [e1,e2] k' vp) pos.line env then do
      evalThenUse (.Tuple [e1,e2] k' vp) env fun v=>assignAll v ((assignEach [.Tuple [.Name x px,.Name y py] k tp] env).map (·.2))
      pure .next
    else do
      let v ← eval (.Tuple [e1,e2] k' vp) env
      assignStores env v (← swappedStores [.Tuple [.Name x px,.Name y py] k tp] (.Tuple [e1,e2] k' vp) env) ((assignEach [.Tuple [.Name x px,.Name y py] k tp] env).map (·.2))) _ _ s
  refine wpAny_bind (wpAny_standAt (wpAny_bind (wpAny_pure ?_)))
  simp only [Bool.false_eq_true,if_false]
  refine wpAny_bind (wpAny_mono (pe_tuple k' vp he (by show 2 ≤ sizeLine; decide) E s mt F.sv) (fun v s₁ ⟨k1,r1⟩=>?_) fun _ _ e=>e)
  rw [hsw]
  refine wpAny_bind (wpAny_pure ?_)
  unfold assignStores
  refine hideG fun zD zhD=>?_
  refine e3a4 r1.tuple_inv fun a vs n zr296 ha ho rs=>?_
  subst zr296
  obtain ⟨v1,vs',rfl,q1,rs⟩:=rs.cons_inv
  obtain ⟨v2,vs'',rfl,q2,rs⟩:=rs.cons_inv
  refine zhD ?_
  clear zhD zD
  obtain rfl:=rs.nil_inv
  refine wpAny_bind (wpAny_rule (wpAny_bind (wpAny_unpackItems_tuple (items:=#[v1,v2]) hA.hd (tup_is ho) fun h' he'=>?_)))
  have k2 : Keeps s₁ { s₁ with heap:=h' }:=⟨h',s₁.toks,rfl,fun b o e=>he' b o (Nat.ne_of_lt (Heap.lt_size e)) e⟩
  have F2:=(F.keeps k1).keeps k2
  show wpAny _ A (assignInOrder [bindName env y,bindName env x] [v2,v1] >>= fun _=>pure Flow.next) _ _ _
  refine wpAny_bind ?_
  show wpAny _ A (holding [v1] (bindName env y v2) >>= fun _=>assignInOrder [bindName env x] [v1]) _ _ _
  refine wpAny_bind (wpAny_holding (wpAny_bindName (F2.store (.inl hy) (q2.ext (Keeps.ext k2)) fun s₃ F3 k3=>?_)))
  show wpAny _ A (holding [] (bindName env x v1) >>= fun _=>assignInOrder [] []) _ _ _
  refine wpAny_bind (wpAny_holding (wpAny_bindName (F3.store (.inl hx) (k3.rp F2 (q1.ext (Keeps.ext k2))) fun s₄ F4 k4=>?_)))
  refine wpAny_pure (wpAny_pure (h s₄ F4 ?_))
  exact Kl.trans (Kl.of (Keeps.trans' k1 k2)) (Kl.trans (k3.mono fun z hz=>by rcases List.mem_cons.mp hz with rfl | hz; exact .tail _ (.head _); cases hz) (k4.mono fun z hz=>by rcases List.mem_cons.mp hz with rfl | hz; exact .head _; cases hz))
end
end Mine
namespace Mine
open PySem PySem.W PyProof.Rows PySem.Calls
noncomputable def Kx (env : Env) (xs : List Str) (ms : List Addr) (s s' : Shared) : Prop :=
  ∃ h' tk,s' = { s with heap:=h',toks:=tk }∧(∀ b o,b ∉ ms→¬ Loc env b→s.heap.get? b = some o→h'.get? b = some o)∧∀ y v,y ∉ xs→Var env s.heap y v→Var env h' y v
section
variable {env : Env} {xs ys : List Str} {ms ms' mt mt₁ mt₂ : List Addr} {s s₁ s₂ : Shared}
theorem Kx.ofKl (k : Kl env xs s s₁) : Kx env xs ms s s₁:=let ⟨h',tk,e,q,v⟩:=k; ⟨h',tk,e,fun b o _ hl e=>q b o hl e,v⟩
theorem Kx.of (k : Keeps s s₁) : Kx env xs ms s s₁:=Kx.ofKl (Kl.of k)
theorem Kx.trans (a : Kx env xs ms s s₁) (b : Kx env xs ms s₁ s₂) : Kx env xs ms s s₂:=by
  refine e2a3 a fun h₁ t₁ zr301 k₁ v₁=>?_
  subst zr301
  refine e2a3 b fun h₂ t₂ zr302 k₂ v₂=>?_
  subst zr302
  exact ⟨h₂,t₂,rfl,fun b o hn hl e=>k₂ b o hn hl (k₁ b o hn hl e),fun y v hy q=>v₂ y v hy (v₁ y v hy q)⟩
theorem Kx.ext (a : Kx env xs ms s s₁) : ∀ b o,b ∉ ms→¬ Loc env b→s.heap.get? b = some o→s₁.heap.get? b = some o:=by
  obtain ⟨h₁,t₁,rfl,k₁,_⟩:=a; exact k₁
theorem Kx.var (a : Kx env xs ms s s₁) : ∀ y v,y ∉ xs→Var env s.heap y v→Var env s₁.heap y v:=by
  obtain ⟨h₁,t₁,rfl,_,k₁⟩:=a; exact k₁
theorem Kx.mono (a : Kx env xs ms s s₁) (h : ∀ x ∈ xs,x ∈ ys) (hm : ∀ b ∈ ms,b ∈ ms') : Kx env ys ms' s s₁:=by
  obtain ⟨h₁,t₁,e,k,v⟩:=a
  exact ⟨h₁,t₁,e,fun b o hb hl q=>k b o (fun z=>hb (hm b z)) hl q,fun y u hy q=>v y u (fun z=>hy (h y z)) q⟩
theorem Kx.ofKb (k : Kb ms s s₁) (hL : ∀ b ∈ ms,¬ Loc env b) : Kx env xs ms s s₁:=by
  have kk:=k
  obtain ⟨h',tk,e,q⟩:=k
  refine ⟨h',tk,e,fun b o hb _ e=>q b o hb e,fun y v _ a=>?_⟩
  have z:=Var.kb a kk hL
  rw [e] at z; exact z
theorem Kx.kl (k : Kx env xs ms s s₁) (hn : ∀ b ∈ ms,s.heap.get? b = none) : Kl env xs s s₁:=by
  obtain ⟨h₁,t₁,e,q,v⟩:=k
  exact ⟨h₁,t₁,e,fun b o hl eb=>q b o (fun z=>by rw [hn b z] at eb; cases eb) hl eb,v⟩
theorem Kx.kb (k : Kx env xs ms s s₁) (hm : ∀ b,Loc env b→b ∈ mt) (hms : ∀ b ∈ ms,b ∈ mt) : Kb mt s s₁:=by
  obtain ⟨h₁,t₁,e,q,v⟩:=k
  exact ⟨h₁,t₁,e,fun b o hb eb=>q b o (fun z=>hb (hms b z)) (fun z=>hb (hm b z)) eb⟩
structure Mv (env : Env) (xs : List Str) (ms : List Addr) (mt₁ mt₂ : List Addr) (s₁ s₂ : Shared) : Prop where
  keep : ∀ b o,(b ∈ mt₁→b ∈ ms)→s₁.heap.get? b = some o→s₂.heap.get? b = some o
  var : ∀ y v,y ∉ xs→Var env s₁.heap y v→Var env s₂.heap y v
  hid : ∀ b ∈ mt₂,b ∈ mt₁ ∨ s₁.heap.get? b = none
theorem Mv.rpA {v : List Value} {d : List PyData} (m : Mv env xs ms mt₁ mt₂ s₁ s₂) (r : RpA s₁.heap mt₁ v d) : RpA s₂.heap mt₂ v d:=r.mono (fun b o hb e=>m.keep b o (fun q=>absurd q hb) e) m.hid
theorem Mv.ow {x : Str} {a : Addr} {ds : List PyData} (m : Mv env xs ms mt₁ mt₂ s₁ s₂) (o : Ow env x a mt₁ ds s₁) (hx : x ∉ xs) (ha : a ∈ ms) : Ow env x a mt₂ ds s₂ :=
  ⟨m.var _ _ hx o.var,let ⟨vs,h1,h2⟩:=o.lst; ⟨vs,h1.at fun ob e=>m.keep a ob (fun _=>ha) e,m.rpA h2⟩⟩
theorem Mv.ofKl (k : Kl env xs s₁ s₂) (hm : ∀ b,Loc env b→b ∈ mt₁) (hL : ∀ b ∈ ms,¬ Loc env b) : Mv env xs ms mt₁ mt₁ s₁ s₂ :=
  ⟨fun b o hb e=>k.ext b o (fun q=>hL b (hb (hm b q)) q) e,k.var,fun _ hb=>.inl hb⟩
end
section
variable {prog : Program} {w : World} {K : Frag} {mg mb : Str→Option Value} {A : Around} {env : Env} {ρ : List (Str × PyData)} {s0 s : Shared} {mt : List Addr} {E : Value→Shared→Prop} {Q : Flow→Shared→Prop}
theorem Fm.unhide {x : Str} {a : Addr} {ds : List PyData} (F : Fm K mg mb s0 env (a :: mt) ρ s) (o : Ow env x a (a :: mt) ds s) (aL : ¬ Loc env a) (ha : a ∉ mt) (ρ' : List (Str × PyData)) (hs : Sub ρ ρ') : Fm K mg mb s0 env mt ((x,.list ds) :: ρ') s:=by
  refine ⟨F.gl0,fun y d e=>?_,fun b hb=>F.mex b (.tail _ hb),F.glb,F.blt,F.knd,F.keep,fun b hb=>⟨?_,(F.locs b hb).2⟩,F.lns,F.cels,F.cinj,F.cknd⟩
  · rcases lookup_put e with ⟨rfl,rfl⟩ | ⟨hne,e⟩
    · exact ⟨_,o.var,o.rp ha fun b hb=>.tail _ hb⟩
    · refine e1a2 (F.vars y d (hs.get y d e)) fun v hv hr=>?_
      exact ⟨v,hv,hr.hide fun b hb=>.inl (.tail _ hb)⟩
  · rcases List.mem_cons.mp (F.locs b hb).1 with q | q
    · exact absurd (q ▸ hb) aL
    · exact q
noncomputable def TgtF (prog : Program) (w : World) (K : Frag) (mg mb : Str→Option Value) (A : Around) (s0 : Shared) (env : Env) (target : Expr) (d : PyData) (bd : List (Str × PyData)) (xs : List Str) : Prop :=
  ∀ (E : Value→Shared→Prop) (mt : List Addr) (ρ : List (Str × PyData)) (s : Shared) (v : Value) (Q : Unit→Shared→Prop),Fm K mg mb s0 env mt ρ s→Rp s.heap mt v d →
    (∀ s',Fm K mg mb s0 env mt (bd ++ ρ) s'→Kl env xs s s'→Q () s')→wpAny (model prog w) A (assign target env v) Q E s
theorem tgtF_name {x : Str} {p : Pos} {d : PyData} (hx : env.kindOf x = some .local ∨ env.kindOf x = some .cell) : TgtF prog w K mg mb A s0 env (.Name x p) d [(x,d)] [x]:=fun _ _ _ _ _ _ F r h =>
  wpAny_assign_Name (F.store hx r h)
theorem ex_forXR {target iter : Expr} {body rest : List Stmt} {pos : Pos} {ds : List PyData} (txs xs : List Str) (ms : List Addr) (bd : PyData→List (Str × PyData)) (R : Nat→List (Str × PyData)) (O : Nat→List Addr→Shared→Prop) (F : Fm K mg mb s0 env mt ρ s)
    (hO0 : O 0 mt s) (hms : ∀ b ∈ ms,b ∈ mt) (hmL : ∀ b ∈ ms,¬ Loc env b) (hsrc : SrcHere prog w A env iter ds mt s)
    (ht : ∀ d ∈ ds,TgtF prog w K mg mb A s0 env target d (bd d) txs)
    (h0 : Sub ρ (R 0))
    (hO : ∀ i mt₁ mt₂ s₁ s₂,O i mt₁ s₁→Mv env txs ms mt₁ mt₂ s₁ s₂→O i mt₂ s₂)
    (turn : ∀ i d mt' s',ds[i]? = some d→(∀ b ∈ mt,b ∈ mt')→Fm K mg mb s0 env mt' (bd d ++ R i) s'→O i mt' s' →
      wpAny (model prog w) A (execs body env) (fun fl s₄=>match fl with
        | .next | .cont=>Fm K mg mb s0 env mt' (R (i + 1)) s₄∧O (i + 1) mt' s₄∧Kx env xs ms s' s₄
        | .brk=>False
        | .ret v=>Q (.ret v) s₄) (fun _ _=>False) s')
    (done : ∀ s',Fm K mg mb s0 env mt (R ds.length) s'→O ds.length mt s'→Kx env (txs ++ xs) ms s s'→wpAny (model prog w) A (execs rest env) Q E s')
    (hs : ∀ x,foldedSetIterable iter env x = pure x:=by intro _; rfl) :
    wpAny (model prog w) A (execs (.For target iter body [] pos :: rest) env) Q E s:=by
  have hm : ∀ b,Loc env b→b ∈ mt:=fun b hb=>(F.locs b hb).1
  refine ex_forR F hsrc (fun wr i s'=>(Fm K mg mb s0 env (wr ++ mt) (R i) s'∧O i (wr ++ mt) s')∧Kx env (txs ++ xs) (wr ++ ms) s s') ?_ ?_ ?_ hs
  · intro wr s₂ k hw hex
    refine ⟨⟨(F.start k hw hex).to _ h0,hO _ _ _ _ _ hO0 ⟨fun b o _ e=>Keeps.ext k b o e,fun y v _ a=>a.ext (Keeps.ext k),fun b hb=>?_⟩⟩,Kx.of k⟩
    rcases List.mem_append.mp hb with q | q
    · exact .inr (hw b q)
    · exact .inl q
  · intro wr i d v s₁ s₂ hd hw zi298 k hex hr
    refine e0a2 zi298 fun zs303 J3=>?_
    refine e0a2 zs303 fun J1 J2=>?_
    have wm : ∀ b ∈ wr,b ∉ mt:=fun b hb q=>not_mt F.mex (hw b hb) q
    have F2:=J1.iter k (F.notLoc hw) (F.new0 hw) hex
    have O2 : O i (wr ++ mt) s₂:=hO _ _ _ _ _ J2 ⟨fun b o hb e=>k.ext b o (fun q=>wm b q (hms b (hb (List.mem_append.mpr (.inl q))))) e,fun y v _ a=>a.kb k (F.notLoc hw),fun _ hb=>.inl hb⟩
    refine ht d (List.mem_of_getElem? hd) _ _ _ _ _ _ F2 hr fun s₃ F3 k3=>?_
    have O3 : O i (wr ++ mt) s₃:=hO _ _ _ _ _ O2 (Mv.ofKl k3 (fun b hb=>List.mem_append.mpr (.inr (hm b hb))) hmL)
    refine wpAny_mono (turn i d _ s₃ hd (fun b hb=>List.mem_append.mpr (.inr hb)) F3 O3) (fun fl s₄ h4=>?_) fun _ _ f=>f
    have fin : Fm K mg mb s0 env (wr ++ mt) (R (i + 1)) s₄∧O (i + 1) (wr ++ mt) s₄∧Kx env xs ms s₃ s₄ →
        ((Fm K mg mb s0 env (wr ++ mt) (R (i + 1)) s₄∧O (i + 1) (wr ++ mt) s₄)∧Kx env (txs ++ xs) (wr ++ ms) s s₄)∧Kb mt s₂ s₄:=by
      intro zi299
      refine e0a3 zi299 fun F4 O4 k4=>?_
      refine ⟨⟨⟨F4,O4⟩,J3.trans (Kx.trans (Kx.mono (Kx.ofKb (xs:=txs ++ xs) k (F.notLoc hw)) (fun _ h=>h) fun b hb=>List.mem_append.mpr (.inl hb)) (Kx.trans (Kx.ofKl (k3.mono fun y hy=>List.mem_append.mpr (.inl hy))) (k4.mono (fun y hy=>List.mem_append.mpr (.inr hy)) fun b hb=>List.mem_append.mpr (.inr hb))))⟩,?_⟩
      exact Kb.trans (k3.kb' hm) (k4.kb hm hms)
    cases fl with
    | next=>exact fin h4
    | cont=>exact fin h4
    | brk=>exact h4.elim
    | ret v=>exact h4
  · intro wr s₁ s₂ hw zi300 k
    refine e0a2 zi300 fun zs304 J3=>?_
    refine e0a2 zs304 fun J1 J2=>?_
    have wm : ∀ b ∈ wr,b ∉ mt:=fun b hb q=>not_mt F.mex (hw b hb) q
    refine done s₂ (J1.fin k hm wm (F.new0 hw)) (hO _ _ _ _ _ J2 ⟨fun b o hb e=>k.ext b o (fun q=>wm b q (hms b (hb (List.mem_append.mpr (.inl q))))) e,fun y v _ a=>a.kb k (F.notLoc hw),fun b hb=>.inl (List.mem_append.mpr (.inr hb))⟩) ?_
    have z:=J3.trans (Kx.mono (Kx.ofKb (xs:=txs ++ xs) k (F.notLoc hw)) (fun _ h=>h) fun b hb=>List.mem_append.mpr (.inl hb))
    refine e2a3 z fun h₁ t₁ e q v=>?_
    refine ⟨h₁,t₁,e,fun b o hb hl eb=>q b o (fun r=>?_) hl eb,v⟩
    rcases List.mem_append.mp r with r | r
    · rw [hw b r] at eb; cases eb
    · exact hb r
theorem ex_forX {target iter : Expr} {body rest : List Stmt} {pos : Pos} {ds : List PyData} (txs xs : List Str) (ms : List Addr) (bd : PyData→List (Str × PyData)) (R : Nat→List (Str × PyData)) (O : Nat→List Addr→Shared→Prop) (F : Fm K mg mb s0 env mt ρ s)
    (hO0 : O 0 mt s) (hms : ∀ b ∈ ms,b ∈ mt) (hmL : ∀ b ∈ ms,¬ Loc env b) (hsrc : Src prog w K mg mb A env ρ iter ds)
    (ht : ∀ d ∈ ds,TgtF prog w K mg mb A s0 env target d (bd d) txs)
    (h0 : Sub ρ (R 0))
    (hO : ∀ i mt₁ mt₂ s₁ s₂,O i mt₁ s₁→Mv env txs ms mt₁ mt₂ s₁ s₂→O i mt₂ s₂)
    (turn : ∀ i d mt' s',ds[i]? = some d→(∀ b ∈ mt,b ∈ mt')→Fm K mg mb s0 env mt' (bd d ++ R i) s'→O i mt' s' →
      wpAny (model prog w) A (execs body env) (fun fl s₄=>match fl with
        | .next | .cont=>Fm K mg mb s0 env mt' (R (i + 1)) s₄∧O (i + 1) mt' s₄∧Kx env xs ms s' s₄
        | .brk=>False
        | .ret v=>Q (.ret v) s₄) (fun _ _=>False) s')
    (done : ∀ s',Fm K mg mb s0 env mt (R ds.length) s'→O ds.length mt s'→Kx env (txs ++ xs) ms s s'→wpAny (model prog w) A (execs rest env) Q E s')
    (hs : ∀ x,foldedSetIterable iter env x = pure x:=by intro _; rfl) :
    wpAny (model prog w) A (execs (.For target iter body [] pos :: rest) env) Q E s:=ex_forXR txs xs ms bd R O F hO0 hms hmL (hsrc.here F.sv) ht h0 hO turn done hs
end
end Mine
namespace Mine
open PySem PySem.W PyProof.Rows PySem.Calls
section
variable {prog : Program} {w : World} {K : Frag} {mg mb : Str→Option Value} {A : Around} {env : Env} {ρ : List (Str × PyData)} {s0 s : Shared} {mt : List Addr} {E : Value→Shared→Prop} {Q : Flow→Shared→Prop}
theorem raw_arg1 {f : Value} {pos p : Pos} {x : Str} {v : Value} (hv : Var env s.heap x v) (hd : (x == ("__debug__" : Str)) = false:=by decide) :
    wpAny (model prog w) A (evalArgs f true (backTo pos (starEach [.Name x p] env)) []) (fun a s'=>a = ⟨[v],[]⟩∧s' = s) E s :=
  evalArgs_plain (wpAny_items_cons (wpAny_Name (hv.load (wpAny_items_nil ⟨rfl,rfl⟩)) hd) rfl)
theorem fm_names : ∀ (xs : List (Str × Pos)) (ds : List PyData) (vs : List Value) (ρ : List (Str × PyData)) (s : Shared) (Q : Unit→Shared→Prop),xs.length = ds.length→(∀ x ∈ xs,env.kindOf x.1 = some .local ∨ env.kindOf x.1 = some .cell)→Fm K mg mb s0 env mt ρ s→RpA s.heap mt vs ds →
    (∀ s',Fm K mg mb s0 env mt (((xs.map (·.1)).zip ds).reverse ++ ρ) s'→Kl env (xs.map (·.1)) s s'→Q () s') →
    wpAny (model prog w) A (assignInOrder ((assignEach (xs.map fun x=>.Name x.1 x.2) env).map (·.2)) vs) Q E s
  | [],ds,vs,ρ,s,Q,hl,_,F,r,h=>by
    cases ds with
    | nil =>
      obtain rfl:=r.nil_inv
      exact wpAny_pure (h s F (Kl.of Keeps.rfl'))
    | cons=>simp at hl
  | (x,px) :: xs,ds,vs,ρ,s,Q,hl,hx,F,r,h=>by
    cases ds with
    | nil=>simp at hl
    | cons d ds =>
      refine e2a3 r.cons_inv fun v vs' zr5 r1 r2=>?_
      subst zr5
      show wpAny (model prog w) A (holding vs' (assign (.Name x px) env v) >>= fun _=>assignInOrder ((assignEach (xs.map fun x=>.Name x.1 x.2) env).map (·.2)) vs') Q E s
      refine wpAny_bind (wpAny_holding (wpAny_assign_Name (F.store (hx (x,px) (.head _)) r1 fun s₁ F₁ k₁=>?_)))
      refine fm_names xs ds vs' ((x,d) :: ρ) s₁ Q (by simpa using hl) (fun y hy=>hx y (.tail _ hy)) F₁ (k₁.rpA F r2) fun s₂ F₂ k₂=>?_
      refine h s₂ ?_ (Kl.trans (k₁.mono fun y hy=>by rcases List.mem_cons.mp hy with rfl | hy; exact .head _; cases hy) (k₂.mono fun y hy=>.tail _ hy))
      simpa using F₂
theorem tgtF_tuple {xs : List (Str × Pos)} {ds : List PyData} {k : Nat} {pos : Pos} (hh : A.handled = none) (hl : xs.length = ds.length) (hx : ∀ x ∈ xs,env.kindOf x.1 = some .local ∨ env.kindOf x.1 = some .cell) :
    TgtF prog w K mg mb A s0 env (.Tuple (xs.map fun x=>.Name x.1 x.2) k pos) (.tuple ds) (((xs.map (·.1)).zip ds).reverse) (xs.map (·.1)):=fun E mt ρ s v Q F r h=>by
  refine e3a4 r.tuple_inv fun a vs n zr6 ha ho rs=>?_
  subst zr6
  refine wpAny_assign_Tuple hh (items:=vs.toArray) ⟨_,ho,rfl,_,rfl⟩ ?_ ?_ fun h' he=>?_
  · rw [assignEach_len,hl,List.size_toArray,rs.length]
  · rw [List.findIdx?_eq_none_iff]
    exact fun p hp=>assignEach_star env xs p hp
  · have k1 : Keeps s { s with heap:=h' }:=⟨h',s.toks,rfl,fun b o e=>he b o (Nat.ne_of_lt (Heap.lt_size e)) e⟩
    exact fm_names xs ds vs ρ _ Q hl hx (F.keeps k1) (rs.ext (Keeps.ext k1)) fun s' F' k'=>h s' F' (Kl.trans (Kl.of k1) k')
theorem ex_forEn {xi xv l : Str} {pi pv tp np lp cp pos : Pos} {k : Nat} {body rest : List Stmt} {a : Addr} {n : Nat} (xs : List Str) (ms : List Addr) (it : Nat→PyData) (R : Nat→List (Str × PyData)) (O : Nat→List Addr→Shared→Prop) (F : Fm K mg mb s0 env mt ρ s)
    (hh : A.handled = none) (hk : env.kindOf "enumerate" = some .globalImplicit) (hg : mg "enumerate" = none) (hb : mb "enumerate" = some (.type "enumerate"))
    (hO0 : O 0 mt s) (hms : ∀ b ∈ ms,b ∈ mt) (hmL : ∀ b ∈ ms,¬ Loc env b) (ha : a ∈ ms)
    (hOw : ∀ i mt' s',O i mt' s'→∃ ds,Ow env l a mt' ds s'∧ds.length = n∧(i < n→ds[i]? = some (it i)))
    (hxi : env.kindOf xi = some .local) (hxv : env.kindOf xv = some .local)
    (h0 : Sub ρ (R 0))
    (hO : ∀ i mt₁ mt₂ s₁ s₂,O i mt₁ s₁→Mv env [xi,xv] ms mt₁ mt₂ s₁ s₂→O i mt₂ s₂)
    (turn : ∀ i mt' s',i < n→(∀ b ∈ mt,b ∈ mt')→Fm K mg mb s0 env mt' ((xv,it i) :: (xi,.int (i : Nat)) :: R i) s'→O i mt' s' →
      wpAny (model prog w) A (execs body env) (fun fl s₄=>match fl with
        | .next | .cont=>Fm K mg mb s0 env mt' (R (i + 1)) s₄∧O (i + 1) mt' s₄∧Kx env xs ms s' s₄
        | .brk=>False
        | .ret v=>Q (.ret v) s₄) (fun _ _=>False) s')
    (done : ∀ s',Fm K mg mb s0 env mt (R n) s'→O n mt s'→Kx env ([xi,xv] ++ xs) ms s s'→wpAny (model prog w) A (execs rest env) Q E s')
    (hld : (l == ("__debug__" : Str)) = false:=by decide)
    (hs : ∀ x,foldedSetIterable (.Call (.Name "enumerate" np) [.Name l lp] [] cp) env x = pure x:=by intro _; rfl) :
    wpAny (model prog w) A (execs (.For (.Tuple [.Name xi pi,.Name xv pv] k tp) (.Call (.Name "enumerate" np) [.Name l lp] [] cp) body [] pos :: rest) env) Q E s:=by
  have hm : ∀ b,Loc env b→b ∈ mt:=fun b hb=>(F.locs b hb).1
  refine hideG fun zD zhD=>?_
  refine e1a3 (hOw 0 mt s hO0) fun ds0 o0 _ _=>?_
  have v0:=o0.var
  refine e1a2 o0.lst fun vs0 l0 _=>?_
  refine zhD ?_
  clear zhD zD
  have pl : (backTo cp (starEach [.Name l lp] env)).any (·.1) = false:=rfl
  refine wpAny_execs_cons (wpAny_For (Call_Name rfl (nm_b F.sv hk hg hb (PyProof.Rows.callWith_type pl (wpAny_mono (raw_arg1 v0 hld) (fun ar s₁ ⟨e1,e2⟩=>?_) fun _ _ e=>e)))) hs)
  subst e1 e2
  refine call_enumerate_list l0.isList fun h₁ he hit hz hk₁=>?_
  refine wpAny_pyIter_enum he ?_
  have ken : Keeps s₁ { s₁ with heap:=h₁ }:=⟨h₁,s₁.toks,rfl,hk₁⟩
  generalize hei : s₁.heap.objs.size = ir at he hit hz
  generalize hee : ir + 1 = e at he
  have hne : e ≠ ir:=by rw [← hee]; exact Nat.succ_ne_self _
  have old1 : ∀ b o,s₁.heap.get? b = some o→b < ir:=fun b o q=>hei ▸ Heap.lt_size q
  have wn : ∀ b ∈ [e,ir],s₁.heap.get? b = none:=fun b hb=>by
    cases q : s₁.heap.get? b with
    | none=>rfl
    | some o =>
      have z:=old1 b o q
      rcases List.mem_cons.mp hb with rfl | hb
      · rw [← hee] at z; exact absurd z (Nat.not_lt.mpr (Nat.le_succ _))
      · rcases List.mem_cons.mp hb with rfl | hb
        · exact absurd z (Nat.lt_irrefl _)
        · cases hb
  have wex : ∀ b ∈ [e,ir],∃ o,h₁.get? b = some o:=fun b hb=>by
    rcases List.mem_cons.mp hb with rfl | hb
    · exact ⟨_,he⟩
    · rcases List.mem_cons.mp hb with rfl | hb
      · obtain ⟨o,q,_⟩:=hit; exact ⟨o,q⟩
      · cases hb
  refine hideG fun zD zhD=>?_
  revert wex
  revert wn
  refine genE ([e,ir]) fun wr hwr wn wex=>?_
  refine zhD ?_
  clear zhD zD
  have eW : e ∈ wr:=hwr ▸ .head _
  have iW : ir ∈ wr:=hwr ▸ .tail _ (.head _)
  have hwr' : ∀ b,b ∉ wr→b ≠ e∧b ≠ ir:=fun b hb=>⟨fun q=>hb (q ▸ eW),fun q=>hb (q ▸ iW)⟩
  have wm : ∀ b ∈ wr,b ∉ mt:=fun b hb q=>not_mt F.mex (wn b hb) q
  have wL:=F.notLoc wn
  have F1:=(F.start ken wn wex).to _ h0
  have O1 : O 0 (wr ++ mt) { s₁ with heap:=h₁ }:=hO _ _ _ _ _ hO0 ⟨fun b o _ q=>hk₁ b o q,fun y v _ q=>q.ext hk₁,fun b hb=>by
    rcases List.mem_append.mp hb with q | q
    · exact .inr (wn b q)
    · exact .inl q⟩
  refine hideG fun zD zhD=>?_
  obtain ⟨I,hI⟩ : ∃ I : Nat→Shared→Prop,∀ m s',I m s' ↔ ∃ i old,(Fm K mg mb s0 env (wr ++ mt) (R i) s'∧O i (wr ++ mt) s')∧Kx env ([xi,xv] ++ xs) (wr ++ ms) s₁ s'∧IsEnum s'.heap e ir ((i : Nat) : Int) old∧s'.heap.IsListIter ir a i∧i ≤ n∧m = n + 1 - i:=⟨_,fun _ _=>Iff.rfl⟩
  refine zhD ?_
  clear zhD zD
  refine codeAny_forLoop_any I ?_ (n + 1) ((hI _ _).2 ⟨0,.none,⟨F1,O1⟩,Kx.of ken,he,hit,Nat.zero_le _,rfl⟩)
  rintro m s' zhX
  refine hideG fun zD zhD=>?_
  refine e2a6 ((hI _ _).1 zhX) fun i old zs7 J3 je ji hi zr8=>?_
  refine e0a2 zs7 fun J1 J2=>?_
  subst zr8
  refine e1a3 (hOw i _ s' J2) fun ds ow dl dg=>?_
  refine e1a2 ow.lst fun vs hl rs=>?_
  refine zhD ?_
  clear zhD zD
  have hvl : vs.length = n:=by rw [rs.length,dl]
  have haW : a ∉ wr:=fun q=>wm a q (hms a ha)
  by_cases hlt : i < n
  · refine hideG fun zD zhD=>?_
    refine e1a2 (rs.get (dg hlt)) fun v hv hr=>?_
    refine zhD ?_
    clear zhD zD
    refine wpAny_pyNext_enum_item je ji hl.isList (x:=v) (by simpa using hv) hne fun h₂ heo hit₂ ht₂ hz₂ hk₂=>?_
    refine wpAny_letOwnedTupleGo_enum (s:={ s' with heap:=h₂,toks:=s'.toks + 1 }) heo fun h₃ he₃ hs₃=>?_
    replace hs₃ : Heap.SameBut e h₂ h₃:=hs₃
    have k3 : ∀ b o,b ∉ wr→s'.heap.get? b = some o→h₃.get? b = some o:=fun b o hb q=>hs₃.extBut b o (hwr' b hb).1 (hk₂ b o (hwr' b hb).1 (hwr' b hb).2 q)
    have kb3 : Kb wr s' { s' with heap:=h₃,toks:=s'.toks + 1 }:=⟨h₃,s'.toks + 1,rfl,k3⟩
    have hit₃ : h₃.IsListIter ir a (i + 1):=hit₂.extBut hs₃.extBut (Ne.symm hne)
    have wex3 : ∀ b ∈ wr,∃ o,h₃.get? b = some o:=fun b hb=>by
      rw [← hwr] at hb
      rcases List.mem_cons.mp hb with rfl | hb
      · exact ⟨_,he₃⟩
      · rcases List.mem_cons.mp hb with rfl | hb
        · obtain ⟨o,q,_⟩:=hit₃; exact ⟨o,q⟩
        · cases hb
    have F3:=J1.iter kb3 wL (F.new0 wn) wex3
    have O3 : O i (wr ++ mt) { s' with heap:=h₃,toks:=s'.toks + 1 }:=hO _ _ _ _ _ J2 ⟨fun b o hb q=>k3 b o (fun r=>wm b r (hms b (hb (List.mem_append.mpr (.inl r))))) q,fun y v _ q=>q.kb kb3 wL,fun _ hb=>.inl hb⟩
    have eS : e < s'.heap.objs.size:=Heap.lt_size je
    have ht₃ : h₃.get? s'.heap.objs.size = some { cls:=.type "tuple",data:=.seq [.int (i : Nat) s'.toks,v].toArray 0 }:=(hs₃.2 _ (Nat.ne_of_gt eS)).trans ht₂
    have tN : s'.heap.objs.size ∉ wr ++ mt:=fun q=>by obtain ⟨o,z⟩:=J1.mex _ q; exact Nat.lt_irrefl _ (Heap.lt_size z)
    have rT : Rp h₃ (wr ++ mt) (.ref s'.heap.objs.size) (.tuple [.int (i : Nat),it i]):=.mkTuple ht₃ tN (.cons (.int _ _) (.cons (hr.mono (fun b o hb q=>k3 b o (fun r=>hb (List.mem_append.mpr (.inl r))) q) fun _ hb=>.inl hb) .nil))
    refine tgtF_tuple (xs:=[(xi,pi),(xv,pv)]) (ds:=[.int (i : Nat),it i]) hh rfl (by intro x hx; simp at hx; rcases hx with rfl | rfl; exact .inl hxi; exact .inl hxv) _ _ _ _ _ _ F3 rT fun s₄ F4 k4=>?_
    have O4 : O i (wr ++ mt) s₄:=hO _ _ _ _ _ O3 (Mv.ofKl k4 (fun b hb=>List.mem_append.mpr (.inr (hm b hb))) hmL)
    refine wpAny_mono (turn i _ s₄ hlt (fun b hb=>List.mem_append.mpr (.inr hb)) F4 O4) (fun fl s₅ h5=>?_) fun _ _ f=>f.elim
    have fin : Fm K mg mb s0 env (wr ++ mt) (R (i + 1)) s₅∧O (i + 1) (wr ++ mt) s₅∧Kx env xs ms s₄ s₅ →
        ∃ m,m < n + 1 - i∧I m s₅:=by
      rintro zhX
      refine hideG fun zD zhD=>?_
      refine e0a3 zhX fun F5 O5 k5=>?_
      refine zhD ?_
      clear zhD zD
      have kk : ∀ b ∈ wr,∀ o,h₃.get? b = some o→s₅.heap.get? b = some o:=fun b hb o q=>k5.ext b o (fun r=>wm b hb (hms b r)) (wL b hb) (k4.ext b o (wL b hb) q)
      refine ⟨n + 1 - (i + 1),by lia,(hI _ _).2 ⟨i + 1,v,⟨F5,O5⟩,?_,?_,?_,hlt,rfl⟩⟩
      · exact J3.trans (Kx.trans (Kx.mono (Kx.ofKb (xs:=[xi,xv] ++ xs) kb3 wL) (fun _ h=>h) fun b hb=>List.mem_append.mpr (.inl hb)) (Kx.trans (Kx.ofKl (k4.mono fun y hy=>List.mem_append.mpr (.inl hy))) (k5.mono (fun y hy=>List.mem_append.mpr (.inr hy)) fun b hb=>List.mem_append.mpr (.inr hb))))
      · have : ((i + 1 : Nat) : Int) = (i : Int) + 1:=by push_cast; rfl
        rw [this]; exact kk e eW _ he₃
      · exact hit₃.at fun o q=>kk ir iW o q
    cases fl with
    | next=>exact fin h5
    | cont=>exact fin h5
    | brk=>exact h5.elim
    | ret v=>exact h5
  · have hie : i = n:=by lia
    subst hie
    refine wpAny_pyNext_enum_end hh je ji hl.isList (by simp [hvl]) fun h₂ hx₂=>wpAny_execs_nil ?_
    have kb : Kb wr s' { s' with heap:=h₂ }:=⟨h₂,s'.toks,rfl,fun b o hb q=>hx₂ b o (hwr' b hb).2 q⟩
    refine done _ (J1.fin kb hm wm (F.new0 wn)) (hO _ _ _ _ _ J2 ⟨fun b o hb q=>kb.ext b o (fun r=>wm b r (hms b (hb (List.mem_append.mpr (.inl r))))) q,fun y v _ q=>q.kb kb wL,fun b hb=>.inl (List.mem_append.mpr (.inr hb))⟩) ?_
    have z:=J3.trans (Kx.mono (Kx.ofKb (xs:=[xi,xv] ++ xs) kb wL) (fun _ h=>h) fun b hb=>List.mem_append.mpr (.inl hb))
    refine hideG fun zD zhD=>?_
    refine e2a3 z fun h₁' t₁ q1 q2 v=>?_
    refine zhD ?_
    clear zhD zD
    refine ⟨h₁',t₁,q1,fun b o hb hl eb=>q2 b o (fun r=>?_) hl eb,v⟩
    rcases List.mem_append.mp r with r | r
    · rw [wn b r] at eb; cases eb
    · exact hb r
end
end Mine
namespace Mine
open PySem PySem.W PyProof.Rows PySem.Calls
section
variable {prog : Program} {w : World} {K : Frag} {mg mb : Str→Option Value} {A : Around} {env : Env} {ρ : List (Str × PyData)} {s0 s : Shared} {mt : List Addr} {E : Value→Shared→Prop} {Q : Flow→Shared→Prop}
theorem ex_pairR {x y : Str} {px py tp vp pos : Pos} {k k' : Nat} {e1 e2 : Expr} {rest : List Stmt} (hA : Aok 0 A)
    (he : wpAny (model prog w) A (spliced (backTo vp (starEach [e1,e2] env))) (fun vs s₁=>∃ v1 v2,vs = [v1,v2]∧∀ s₂,Keeps s₁ s₂ →
      wpAny (model prog w) A (storeName env y v2) (fun _ s₃=>wpAny (model prog w) A (storeName env x v1) (fun _ s₄=>wpAny (model prog w) A (execs rest env) Q E s₄) E s₃) E s₂) E s)
    (hsw : swappedStores [.Tuple [.Name x px,.Name y py] k tp] (.Tuple [e1,e2] k' vp) env = pure (some [x,y])) :
    wpAny (model prog w) A (execs (.Assign [.Tuple [.Name x px,.Name y py] k tp] (.Tuple [e1,e2] k' vp) pos :: rest) env) Q E s:=by
  refine wpAny_execs_cons ?_
  show wpAny _ A (do
    standAt pos
    if ← swapsWithSole [.Tuple [.Name x px,.Name y py] k tp] (.Tuple [e1,e2] k' vp) pos.line env then do
      evalThenUse (.Tuple [e1,e2] k' vp) env fun v=>assignAll v ((assignEach [.Tuple [.Name x px,.Name y py] k tp] env).map (·.2))
      pure .next
    else do
      let v ← eval (.Tuple [e1,e2] k' vp) env
      assignStores env v (← swappedStores [.Tuple [.Name x px,.Name y py] k tp] (.Tuple [e1,e2] k' vp) env) ((assignEach [.Tuple [.Name x px,.Name y py] k tp] env).map (·.2))) _ _ s
  refine wpAny_bind (wpAny_standAt (wpAny_bind (wpAny_pure ?_)))
  simp only [Bool.false_eq_true,if_false]
  refine wpAny_bind (wpAny_Tuple (wpAny_mono he (fun vs s₁ ⟨v1,v2,e,h⟩=>?_) fun _ _ e=>e))
  subst e
  refine ⟨by show 2 ≤ sizeLine; decide,?_⟩
  rw [hsw]
  refine wpAny_bind (wpAny_pure ?_)
  unfold assignStores
  refine wpAny_bind (wpAny_rule (wpAny_bind (wpAny_unpackItems_tuple (items:=#[v1,v2]) hA.hd ⟨_,Heap.get?_push_size _ rfl,rfl,_,rfl⟩ fun h' he'=>?_)))
  show wpAny _ A (assignInOrder [bindName env y,bindName env x] [v2,v1] >>= fun _=>pure Flow.next) _ _ _
  refine wpAny_bind ?_
  show wpAny _ A (holding [v1] (bindName env y v2) >>= fun _=>assignInOrder [bindName env x] [v1]) _ _ _
  refine wpAny_bind (wpAny_holding (wpAny_bindName (wpAny_mono (h _ (Keeps.trans' (Keeps.push _) ⟨h',s₁.toks,rfl,fun b o e=>he' b o (Nat.ne_of_lt (Heap.lt_size e)) e⟩)) (fun _ s₃ h₃=>?_) fun _ _ e=>e)))
  show wpAny _ A (holding [] (bindName env x v1) >>= fun _=>assignInOrder [] []) _ _ _
  refine wpAny_bind (wpAny_holding (wpAny_bindName (wpAny_mono h₃ (fun _ s₄ h₄=>wpAny_pure (wpAny_pure h₄)) fun _ _ e=>e)))
theorem raw_list {x : Str} {p np cp : Pos} {ds : List PyData} {Q : Value→Shared→Prop} (S : Sv K mg mb env mt ρ s) (hk : env.kindOf "list" = some .globalImplicit) (hg : mg "list" = none) (hb : mb "list" = some (.type "list")) (hx : ρ.lookup x = some (.list ds))
    (hz : ds.length ≤ sizeLine) (h : ∀ h' vs,(∀ b o,s.heap.get? b = some o→h'.get? b = some o)→h'.PlainList s.heap.objs.size vs.toArray→RpA s.heap mt vs ds→Q (.ref s.heap.objs.size) { s with heap:=h' }) (hd : (x == ("__debug__" : Str)) = false:=by decide) :
    wpAny (model prog w) A (eval (.Call (.Name "list" np) [.Name x p] [] cp) env) Q E s:=by
  refine e1a2 (S.vars x _ hx) fun v hv hr=>?_
  refine e2a4 hr.list_inv fun a vs zr366 hn zs367 rs=>?_
  subst zr366
  refine e1a1 zs367 fun n ho=>?_
  refine Call_Name rfl (nm_b S hk hg hb (PyProof.Rows.callWith_type rfl (wpAny_mono (raw_arg1 hv hd) (fun ar s₁ ⟨e1,e2⟩=>?_) fun _ _ e=>e)))
  subst e1 e2
  refine call_list_seq (hsz:=by simp [rs.length]; exact hz) a (.inl rfl) ho rfl rfl fun h' c' hk hD=>h h' vs hk ⟨c',hD⟩ rs
theorem raw_len {x : Str} {p np cp : Pos} {a : Addr} {vs : List Value} {Q : Value→Shared→Prop} (S : Sv K mg mb env mt ρ s) (hk : env.kindOf "len" = some .globalImplicit) (hg : mg "len" = none) (hb : mb "len" = some (.builtin "len")) (hv : Var env s.heap x (.ref a)) (hl : s.heap.PlainList a vs.toArray)
    (hz : vs.length < 1000000) (h : ∀ t s',Keeps s s'→Q (.int (vs.length : Nat) t) s') (hd : (x == ("__debug__" : Str)) = false:=by decide) :
    wpAny (model prog w) A (eval (.Call (.Name "len" np) [.Name x p] [] cp) env) Q E s:=by
  refine Call_Name rfl (nm_b S hk hg hb (callWith_builtin rfl (wpAny_mono (raw_arg1 hv hd) (fun ar s₁ ⟨e1,e2⟩=>?_) fun _ _ e=>e)))
  subst e1 e2
  have hz' : ((vs.toArray.size : Nat) : Int) < 2 ^ 63:=by rw [List.size_toArray]; lia
  have z:=h (s₁.toks + 1) { s₁ with toks:=s₁.toks + 1 + 1 } (Keeps.tok _)
  refine len_list hl.isList hz' ?_
  rw [List.size_toArray]
  exact z
theorem setItem_plain {a : Addr} {vs : List Value} {i : Int} {t : Tok} {v : Value} {Q : Unit→Shared→Prop} (hl : s.heap.PlainList a vs.toArray) (h0 : 0 ≤ i) (hfit : i < 2 ^ 63) (hi : i.toNat < vs.length)
    (h : ∀ h',h'.PlainList a (vs.set i.toNat v).toArray→Heap.SameBut a s.heap h'→Q () { s with heap:=h' }) : wpAny (model prog w) A (setItem (.ref a) (.int i t) v) Q E s:=by
  have hl':=hl.isList
  obtain ⟨n,ho⟩:=hl
  unfold setItem
  try with_reducible refine wpAny_holding ?_
  first | refine wpAny_bind (wpAny_pure ?_) | skip
  refine wpAny_bind (wpAny_sequenceKey hl'.typeIs (by decide) ?_)
  refine wpAny_bind (wpAny_callSpecial?_slot (name:=Str.ofString "__setitem__") hl'.typeIs slot_list_setitem
    (wpAny_call_entry slot_list_setitem hl'.typeIs entry_list_setitem ?_ (args_list_setitem _ _ _)))
  show wpAny _ _ (Builtin.List.listSubscript? (.int i t) >>= _) _ _ s
  refine wpAny_bind (wpAny_listSubscript_int (fitsIndex_of h0 hfit) ?_)
  clear hfit
  obtain ⟨k,rfl⟩:=Int.eq_ofNat_of_zero_le h0
  rw [Int.toNat_natCast] at h
  have hk : k < vs.length:=by simpa using hi
  have hx' : vs.toArray[k]? = some vs[k]:=by simp [hk]
  show wpAny _ _ ((seqItemAt a k >>= fun r=>pure (r.map (k,·))) >>= _) _ _ s
  refine wpAny_bind (wpAny_bind (wpAny_seqItemAt ho rfl (wpAny_pure ?_)))
  rw [hx']
  show wpAny _ _ (setSeqItemAt a k v >>= _) _ _ s
  have hfin : (s.heap.update a (Obj.mapSeq (·.setIfInBounds k v))).PlainList a (vs.set k v).toArray:=by
    have z:=get?_update_seq (c := "list") ho (·.setIfInBounds k v)
    rw [List.setIfInBounds_toArray] at z
    exact ⟨_,z⟩
  refine wpAny_bind (wpAny_setSeqItemAt ho rfl ?_)
  first
    | exact wpAny_bind (wpAny_pure (wpAny_pure ⟨.none,rfl,wpAny_pure (h _ hfin (Heap.SameBut.update ..))⟩))
    | exact wpAny_pure ⟨.none,rfl,wpAny_pure (h _ hfin (Heap.SameBut.update ..))⟩
end
end Mine
namespace Mine
open PySem PySem.W PyProof.Rows PySem.Calls
section
variable {prog : Program} {w : World} {K : Frag} {mg mb : Str→Option Value} {A : Around} {env : Env} {ρ : List (Str × PyData)} {s0 s : Shared} {mt : List Addr} {E : Value→Shared→Prop} {Q : Flow→Shared→Prop}
theorem RpA.set {h : Heap} {mt : List Addr} : ∀ {vs : List Value} {ds : List PyData} (i : Nat) {v : Value} {d : PyData},RpA h mt vs ds→Rp h mt v d→RpA h mt (vs.set i v) (ds.set i d)
  | [],ds,_,_,_,r,_=>by rw [r.nil_inv']; exact .nil
  | u :: vs,ds,i,v,d,r,q=>by
    refine e2a3 r.cons_inv' fun d' ds' zr354 r1 r2=>?_
    subst zr354
    cases i with
    | zero=>exact .cons q r2
    | succ i=>exact .cons r1 (RpA.set i r2 q)
theorem ex_setO {x j : Str} {p1 p2 sp pos : Pos} {e : Expr} {rest : List Stmt} {a : Addr} {ds : List PyData} {d : PyData} {k : Nat} (F : Fm K mg mb s0 env mt ρ s) (o : Ow env x a mt ds s) (ha : a ∈ mt) (aL : ¬ Loc env a) (a0 : s0.heap.get? a = none)
    (he : PE prog w K mg mb A env ρ e d) (hj : ρ.lookup j = some (.int (k : Nat))) (hk : k < ds.length) (hz : ds.length < 1000000)
    (h : ∀ s',Fm K mg mb s0 env mt ρ s'→Ow env x a mt (ds.set k d) s'→(∀ y u,Var env s.heap y u→Var env s'.heap y u)→Kb [a] s s'→wpAny (model prog w) A (execs rest env) Q E s')
    (hsw : swapsWith e (some (.Subscript (.Name x p1) (.Name j p2) sp)) pos.line env = pure false:=by rfl)
    (hd : (x == ("__debug__" : Str)) = false:=by decide) (hd2 : (j == ("__debug__" : Str)) = false:=by decide) :
    wpAny (model prog w) A (execs (.Assign [.Subscript (.Name x p1) (.Name j p2) sp] e pos :: rest) env) Q E s:=by
  refine wpAny_execs_cons (wpAny_Assign_Subscript (wpAny_mono (he E s mt F.sv) (fun v s₁ ⟨k1,r1⟩=>?_) fun _ _ e=>e) hsw)
  have F1:=F.keeps k1
  have o1:=o.keeps k1
  refine hideG fun zD zhD=>?_
  refine e1a2 o1.lst fun vs h1 h2=>?_
  refine e1a2 (F1.vars j _ hj) fun vj hvj hrj=>?_
  refine e1a1 hrj.int_inv fun t zr355=>?_
  subst zr355
  refine zhD ?_
  clear zhD zD
  refine wpAny_Name (o1.var.load (wpAny_Name (hvj.load ?_) hd2)) hd
  have hvl : vs.length = ds.length:=h2.length
  refine setItem_plain h1 (Int.natCast_nonneg _) (by lia) (by rw [Int.toNat_natCast,hvl]; exact hk) fun h' hl' hs'=>?_
  rw [Int.toNat_natCast] at hl'
  have kb : ∀ b o,b ≠ a→s₁.heap.get? b = some o→h'.get? b = some o:=hs'.extBut
  refine hideG fun zD zhD=>?_
  refine e1a1 (id hl') fun n ho'=>?_
  refine zhD ?_
  clear zhD zD
  have F2 : Fm K mg mb s0 env mt ρ { s₁ with heap:=h',toks:=s₁.toks }:=by
    refine F1.turn (fun _ hb=>hb) (fun _ hb=>.inl hb) (fun b hb=>?_) (fun b o hb e=>kb b o (fun q=>aL (q ▸ hb (q ▸ ha))) e) fun b o e=>kb b o (fun q=>by rw [q,a0] at e; cases e) (Keeps.ext F1.keep b o e)
    by_cases q : b = a
    · subst q; exact ⟨_,ho'⟩
    · obtain ⟨o,e⟩:=F1.mex b hb; exact ⟨o,kb b o q e⟩
  have hv2 : ∀ y u,Var env s₁.heap y u→Var env h' y u:=fun y u hy=>Var.kb (s₁:=s₁) hy (⟨h',s₁.toks,rfl,fun b o hb e=>kb b o (fun q=>hb (q ▸ .head _)) e⟩ : Kb [a] s₁ { s₁ with heap:=h',toks:=s₁.toks }) fun b hb=>by rcases List.mem_cons.mp hb with rfl | hb; exact aL; cases hb
  refine h _ F2 ⟨hv2 _ _ o1.var,vs.set k v,hl',?_⟩ (fun y u hy=>hv2 y u (hy.ext (Keeps.ext k1))) ?_
  · exact (rpA_but h2 ha kb).set k (rp_but r1 ha kb)
  · refine hideG fun zD zhD=>?_
    refine e2a2 k1 fun h₁ t₁ zr356 q₁=>?_
    subst zr356
    refine zhD ?_
    clear zhD zD
    exact ⟨h',t₁,rfl,fun b o hb e=>kb b o (fun r=>hb (r ▸ .head _)) (q₁ b o e)⟩
theorem ex_augI {x : Str} {px pos : Pos} {e : Expr} {rest : List Stmt} {i k : Int} (F : Fm K mg mb s0 env mt ρ s) (hx : env.kindOf x = some .local ∨ env.kindOf x = some .cell) (hi : ρ.lookup x = some (.int i)) (he : PE prog w K mg mb A env ρ e (.int k))
    (h : ∀ s',Fm K mg mb s0 env mt ((x,.int (i + k)) :: ρ) s'→Kl env [x] s s'→wpAny (model prog w) A (execs rest env) Q E s') :
    wpAny (model prog w) A (execs (.AugAssign (.Name x px) .Add e pos :: rest) env) Q E s:=by
  refine e1a2 (F.vars x _ hi) fun v hv hr=>?_
  refine e1a1 hr.int_inv fun t zr357=>?_
  subst zr357
  refine wpAny_execs_cons (wpAny_AugAssign_Name (hv.load (wpAny_mono (he E s mt F.sv) (fun v s₁ ⟨k1,r1⟩=>?_) fun _ _ e=>e)))
  refine e1a1 r1.int_inv fun u zr358=>?_
  subst zr358
  refine iadd_int ?_
  exact ((F.keeps k1).keeps (Keeps.tok _)).store hx (.int _ _) fun s' F' k'=>h s' F' (Kl.trans (Kl.of (Keeps.trans' k1 (Keeps.tok _))) k')
theorem ex_assign2 {x y : Str} {p1 p2 pos : Pos} {e : Expr} {rest : List Stmt} {d : PyData} (F : Fm K mg mb s0 env mt ρ s) (hx : env.kindOf x = some .local ∨ env.kindOf x = some .cell) (hy : env.kindOf y = some .local ∨ env.kindOf y = some .cell) (he : PE prog w K mg mb A env ρ e d)
    (h : ∀ s',Fm K mg mb s0 env mt ((y,d) :: (x,d) :: ρ) s'→Kl env [x,y] s s'→wpAny (model prog w) A (execs rest env) Q E s') :
    wpAny (model prog w) A (execs (.Assign [.Name x p1,.Name y p2] e pos :: rest) env) Q E s:=by
  refine wpAny_execs_cons (wpAny_Assign_two (wpAny_mono (he E s mt F.sv) (fun v s₁ ⟨k1,r1⟩=>?_) fun _ _ e=>e))
  have F1:=F.keeps k1
  refine wpAny_assign_Name (F1.store hx r1 fun s₂ F2 k2=>wpAny_assign_Name (F2.store hy (k2.rp F1 r1) fun s₃ F3 k3=>h s₃ F3 ?_))
  exact Kl.trans (Kl.of k1) (Kl.trans (k2.mono (by simp)) (k3.mono (by simp)))
end
end Mine
namespace Mine
open PySem PySem.W PyProof.Rows PySem.Calls
section
variable {prog : Program} {w : World} {A : Around} {E : Value→Shared→Prop} {s : Shared}
theorem list_declines_thing (l b : Addr) (items : Array Value) (n : Nat) :
    Meets (Builtin.«list.__eq__» ⟨[.ref l,.ref b],[]⟩) (fun _ R s=>s.heap.get? l = some { cls:=.type "list",data:=.seq items n }∧s.heap.get? b = some { cls:=.type "object",data:=.plain }∧R (.ok (.ret .notImplemented)) s) :=
  .of_wp fun prog w A R s h=>by
    obtain ⟨hp,g,d,tk,os⟩:=s
    refine e0a3 h fun hl hb h=>?_
    have f1 : isSubtype (.type "object") (.type "list") = pure false:=by rw [isSubtype_type]; kernel_rfl
    wp_walk using AutoSeq1.wpAny_loadPart' hl,AutoSeq1.wpAny_loadPart' hb
    exact ⟨_,rfl,h⟩
theorem thing_eq_list {b l : Addr} {items : Array Value} {n : Nat} {Q : Value→Shared→Prop} (hu : A.units < cLine) (hb : s.heap.get? b = some { cls:=.type "object",data:=.plain }) (hl : s.heap.get? l = some { cls:=.type "list",data:=.seq items n }) (h : Q (.bool false) s) :
    wpAny (model prog w) A (richCompare .Eq (.ref b) (.ref l)) Q E s:=by
  have ha : s.TypeIs (.ref b) "object" := ⟨_,hb,rfl⟩
  have hb' : s.TypeIs (.ref l) "list" := ⟨_,hl,rfl⟩
  have hne : b ≠ l:=fun e=>by subst e; rw [hb] at hl; simp at hl
  have hsame : ∀ Q' : Bool→Shared→Prop,Q' false s→wpAny (model prog w) A (isSame (.ref b) (.ref l)) Q' E s:=fun Q' hq=>wpAny_isSame_ref_other hne hb hl (by simp) hq
  have h1:=PySem.F.slot_object_eq
  have h2:=PySem.F.slot_list_eq_refl
  rcases hi : cmpInfo CmpOp.Eq with ⟨sym,f,r⟩
  rw [hi] at h1 h2
  simp only [richCompare,hi,ha.oneThing_none]
  try with_reducible refine wpAny_holding ?_
  refine wpAny_bind (wpAny_cRoomFor_or (.inr hu) ?_)
  refine wpAny_bind (wpAny_typeOf ha (wpAny_bind (wpAny_typeOf hb' ?_)))
  simp only [show (Value.type "object" != Value.type "list") = true from by decide,if_true]
  refine wpAny_bind (wpAny_of_eq PySem.F.sub_list_object ?_)
  simp only [if_true]
  refine wpAny_bind (m:=tryCompare (.ref l) _ (.ref b)) (wpAny_tryCompare_declines hb' h2 (call_meets h2 hb' PySem.F.entry_list_eq (PySem.F.args_list_eq_2 _ _) (list_declines_thing l b items n) ⟨hl,hb,rfl,?_⟩))
  refine wpAny_bind (m:=tryCompare (.ref b) _ (.ref l)) (wpAny_tryCompare_declines ha h1 (wpAny_call_entry h1 ha PySem.F.entry_object_eq ?_ (PySem.F.args_object_eq_2 _ _)))
  show wpAny _ _ (isSame (.ref b) (.ref l) >>= _) _ _ _
  refine wpAny_bind (wpAny_isSame_ref_other hne hb hl (by simp) ?_)
  simp only [Bool.false_eq_true,if_false]
  refine wpAny_pure ⟨_,rfl,rfl,?_⟩
  simp only [Bool.not_true,Bool.false_eq_true,if_false]
  exact wpAny_bind (wpAny_rule (wpAny_bind (hsame _ (wpAny_pure h))))
theorem one_eq_one {a b : Addr} {x y : Int} {t u : Tok} {n m : Nat} {Q : Value→Shared→Prop} (hu : A.units < cLine) (ha : s.heap.get? a = some { cls:=.type "list",data:=.seq #[.int x t] n }) (hb : s.heap.get? b = some { cls:=.type "list",data:=.seq #[.int y u] m }) (h : Q (.bool (x == y)) s) :
    wpAny (model prog w) A (richCompare .Eq (.ref a) (.ref b)) Q E s:=by
  have z:=SeqAt.RcAt.lists (A:=A) (s:=s) (l:=a) (b:=b) (items:=#[.int x t]) (items2:=#[.int y u]) (e:=fun _=>x == y) ⟨_,ha,rfl,_,rfl⟩ ⟨_,hb,rfl,_,rfl⟩ rfl hu (fun j h1 h2=>by
    have hj : j = 0:=by simp at h1; omega
    subst hj
    exact SeqAt.EqAt.int_int x t y u)
  refine z prog w E Q ?_
  simpa [List.range_succ] using h
end
section
variable {prog : Program} {w : World} {K : Frag} {mg mb : Str→Option Value} {A : Around} {env : Env} {ρ : List (Str × PyData)} {s0 s : Shared} {mt : List Addr} {E : Value→Shared→Prop} {Q : Flow→Shared→Prop}
noncomputable def one (g : Int) : PyData:=.list [.int g]
noncomputable def thing (a : Addr) : PyData:=.dict [(.int (a : Nat),.none)]
theorem one_inv {h : Heap} {mt : List Addr} {v : Value} {g : Int} (r : Rp h mt v (one g)) : ∃ a t n,v = .ref a∧h.get? a = some { cls:=.type "list",data:=.seq #[.int g t] n }:=by
  refine e2a4 r.list_inv fun a vs zr209 _ zs210 rs=>?_
  subst zr209
  refine e1a1 zs210 fun n ho=>?_
  refine e2a3 rs.cons_inv fun x xs zr211 r1 r2=>?_
  subst zr211
  obtain rfl:=r2.nil_inv
  refine e1a1 r1.int_inv fun t zr212=>?_
  subst zr212
  exact ⟨a,t,n,rfl,ho⟩
theorem thing_inv {h : Heap} {mt : List Addr} {v : Value} {a : Addr} (r : Rp h mt v (thing a)) : v = .ref a∧h.get? a = some { cls:=.type "object",data:=.plain }:=by
  obtain ⟨b,rfl,e,_,ho⟩:=Rp.thing_inv r
  have : a = b:=by
    have:=Int.ofNat.inj e
    exact this
  subst this
  exact ⟨rfl,ho⟩
noncomputable def mk (nul : Addr) (M : List Int) (x : Int) : PyData:=if x ∈ M then thing nul else one x
theorem cmp_mk {nul : Addr} {M : List Int} {x y : Int} {v u : Value} {Q : Value→Shared→Prop} (hu : A.units < cLine) (r1 : Rp s.heap mt v (mk nul M x)) (r2 : Rp s.heap mt u (one y)) (h : Q (.bool (decide (x ∉ M) && x == y)) s) :
    wpAny (model prog w) A (compareOp .Eq v u) Q E s:=by
  refine e3a2 (one_inv r2) fun b t n zr213 hb=>?_
  subst zr213
  unfold mk at r1
  by_cases hx : x ∈ M
  · rw [if_pos hx] at r1
    refine e0a2 (thing_inv r1) fun zr214 ho=>?_
    subst zr214
    refine thing_eq_list hu ho hb ?_
    simpa [hx] using h
  · rw [if_neg hx] at r1
    refine e3a2 (one_inv r1) fun a t' n' zr215 ha=>?_
    subst zr215
    refine one_eq_one hu ha hb ?_
    simpa [hx] using h
theorem pt_eqM {l r : Expr} {nul : Addr} {M : List Int} {x y : Int} (pos : Pos) (hA : Aok 0 A) (hl : PE prog w K mg mb A env ρ l (mk nul M x)) (hr : PE prog w K mg mb A env ρ r (one y)) (hm : behindInMarks .Eq r = false:=by with_unfolding_all rfl) :
    PT prog w K mg mb A env ρ (.Compare l [.Eq] [r] pos) (decide (x ∉ M) && x == y):=fun E s mt S =>
  wpAny_isTrue_Compare1 (pe_two S hl hr fun _ _ s' k _ rx ry=>cmp_mk (by have:=hA.un; lia) rx ry (wpAny_truthy_bool ⟨rfl,k⟩)) hm
theorem pt_isM {l r : Expr} {nul : Addr} {M : List Int} {x : Int} (pos : Pos) (hl : PE prog w K mg mb A env ρ l (mk nul M x)) (hr : PE prog w K mg mb A env ρ r (thing nul)) (hm : behindInMarks .Is r = false:=by with_unfolding_all rfl) :
    PT prog w K mg mb A env ρ (.Compare l [.Is] [r] pos) (decide (x ∈ M)):=fun E s mt S =>
  wpAny_isTrue_Compare1 (pe_two S hl hr fun _ _ s' k _ rx ry=>by
    refine e0a2 (thing_inv ry) fun zr216 ho=>?_
    subst zr216
    unfold mk at rx
    by_cases hx : x ∈ M
    · rw [if_pos hx] at rx
      refine e0a2 (thing_inv rx) fun zr217 _=>?_
      subst zr217
      exact wpAny_is_ref_self (wpAny_truthy_bool ⟨by simp [hx],k⟩)
    · rw [if_neg hx] at rx
      refine e3a2 (one_inv rx) fun a t n zr218 ha=>?_
      subst zr218
      refine wpAny_is_ref_other (fun e=>by subst e; rw [ha] at ho; simp at ho) ha ho (by simp) (wpAny_truthy_bool ⟨by simp [hx],k⟩)) hm
theorem ex_ifR {test : Expr} {body orelse rest : List Stmt} {pos : Pos} {b : Bool} (F : Fm K mg mb s0 env mt ρ s) (ht : wpAny (model prog w) A (isTrue test env (eval test env)) (fun r s'=>r = b∧Keeps s s') E s)
    (h1 : b = true→∀ s',Fm K mg mb s0 env mt ρ s'→Keeps s s'→wpAny (model prog w) A (execs body env) (fun f s₁=>match f with | .next=>wpAny (model prog w) A (execs rest env) Q E s₁ | f=>Q f s₁) E s')
    (h2 : b = false→∀ s',Fm K mg mb s0 env mt ρ s'→Keeps s s'→wpAny (model prog w) A (execs orelse env) (fun f s₁=>match f with | .next=>wpAny (model prog w) A (execs rest env) Q E s₁ | f=>Q f s₁) E s') :
    wpAny (model prog w) A (execs (.If test body orelse pos :: rest) env) Q E s :=
  wpAny_execs_cons (wpAny_If (wpAny_mono ht (fun r s₁ ⟨e,k⟩=>by
    subst e
    cases r with
    | true=>exact h1 rfl s₁ (F.keeps k) k
    | false=>exact h2 rfl s₁ (F.keeps k) k) fun _ _ e=>e))
theorem ow_eqM {x j : Str} {p1 p2 sp pos : Pos} {r : Expr} {a nul : Addr} {ds : List PyData} {M : List Int} {k : Nat} {g y : Int} (hA : Aok 0 A) (F : Fm K mg mb s0 env mt ρ s) (o : Ow env x a mt ds s) (hj : ρ.lookup j = some (.int (k : Nat))) (hz : ds.length < 1000000) (hd : ds[k]? = some (mk nul M g)) (hr : PE prog w K mg mb A env ρ r (one y))
    (hx : (x == ("__debug__" : Str)) = false:=by decide) (hx2 : (j == ("__debug__" : Str)) = false:=by decide) (hm : behindInMarks .Eq r = false:=by with_unfolding_all rfl)
    (hsb : ∀ o i,subscripted (.Name j p2) false o i = operate [o,i] (getItem o i):=by intro _ _; with_unfolding_all rfl) :
    wpAny (model prog w) A (isTrue (.Compare (.Subscript (.Name x p1) (.Name j p2) sp) [.Eq] [r] pos) env (eval (.Compare (.Subscript (.Name x p1) (.Name j p2) sp) [.Eq] [r] pos) env)) (fun b s'=>b = (decide (g ∉ M) && g == y)∧Keeps s s') E s:=by
  refine hideG fun zD zhD=>?_
  refine e1a2 o.lst fun vs h1 h2=>?_
  refine e1a2 (F.vars j _ hj) fun vj hvj hrj=>?_
  refine e1a1 hrj.int_inv fun t zr219=>?_
  subst zr219
  refine e1a2 (h2.get hd) fun v hv hrv=>?_
  refine zhD ?_
  clear zhD zD
  have hk : k < vs.length:=(List.getElem?_eq_some_iff.mp hv).1
  have hvl : vs.length = ds.length:=h2.length
  refine wpAny_isTrue_Compare1 ?_ hm
  refine Subscript_ (wpAny_Name (o.var.load (wpAny_Name (hvj.load ?_) hx2)) hx)
  refine tail_any h1.isList.typeIs slot_list_getitem.lookup (wpAny_getItem_list h1.isList (Int.natCast_nonneg _) (by lia) (x:=v) (by simpa using hv) ?_) (hsb _ _)
  refine wpAny_mono (hr E s mt F.sv) (fun u s₁ ⟨k1,r1⟩=>?_) fun _ _ e=>e
  exact cmp_mk (by have:=hA.un; lia) (hrv.ext (Keeps.ext k1)) r1 (wpAny_truthy_bool ⟨rfl,k1⟩)
end
end Mine
namespace Mine
open PySem PySem.W PyProof.Rows PySem.Calls
noncomputable def AX : Around:={ depth:=900,units:=2000 }
theorem of_AX {α : Type} {M : Model} {A : Around} {t : Sem α} {Q : α→Shared→Prop} {E : Value→Shared→Prop} {s : Shared} (hh : A.handled = none) (hd : A.depth ≤ 900) (hu : A.units ≤ 2000) (h : wpAny M AX t Q E s) : wpAny M A t Q E s :=
  fun Γ p hΓ=>h Γ p ⟨by rw [hΓ.1,hh]; rfl,Nat.le_trans hΓ.2.1 hd,(fun _ e=>nomatch e),(fun _ e=>nomatch e),Nat.le_trans hΓ.2.2.2.2 hu⟩
noncomputable def NewAt (s : Shared) (Q : Value→Shared→Prop) (o : Addr→Obj) : Prop:=∀ (a dd : Addr) (h : Heap) (tk : Nat),(∀ b ob,s.heap.get? b = some ob→h.get? b = some ob)→s.heap.get? a = none→h.get? a = some (o dd)→Q (.ref a) ⟨h,s.gens,s.drawn,tk,s.os⟩
theorem NewAt.use {s : Shared} {Q : Value→Shared→Prop} {o : Addr→Obj} (P : NewAt s Q o) {h : Heap} {a : Addr} {ob : Obj} {news : List (Addr × Obj)} {tk : Nat} (D : X.Mem s.heap h [] ((a,ob) :: news)) (dd : Addr) (e : ob = o dd) : Q (.ref a) ⟨h,s.gens,s.drawn,tk,s.os⟩:=by
  subst e
  refine P a dd h tk (fun b ob q=>D.keep b ob q (by simp [X.away])) ?_ (D.at 0 a _ rfl)
  cases q : s.heap.get? a with
  | none=>rfl
  | some ob'=>exact absurd rfl (D.ne_old 0 a _ rfl a ob' q)
section
local macro_rules | `(tactic| x_close)=>`(tactic| exact NewAt.use (by assumption) (by assumption) 0 rfl)
set_option maxHeartbeats 0 in
theorem obj_newX {prog : Program} {w : World} {E : Value→Shared→Prop} {s : Shared} {Q : Value→Shared→Prop} (h : NewAt s Q fun _=>{ cls:=.type "object",data:=.plain }) : wpAny (model prog w) AX (call (.type "object") []) Q E s:=by
  x_run
end
end Mine
namespace Mine
open PySem PySem.W PyProof.Rows PySem.Calls
section
variable {prog : Program} {w : World} {K : Frag} {mg mb : Str→Option Value} {A : Around} {env : Env} {ρ : List (Str × PyData)} {s0 s : Shared} {mt : List Addr} {E : Value→Shared→Prop}
theorem callWith_class {pos : Pos} {C : Addr} {trees : List (Bool × Sem Value)} {Q : Value→Shared→Prop} (hpl : trees.any (·.1) = false)
    (h : wpAny (model prog w) A (evalArgs (.ref C) true trees []) (fun a s₁=>(∃ o c,s₁.heap.get? C = some o∧o.cls = .type "type" ∧ o.data = .cls c)∧wpAny (model prog w) A (call (.ref C) a.pos a.kw) Q E s₁) E s) :
    wpAny (model prog w) A (callWith pos (.ref C) [] trees []) Q E s:=by
  unfold callWith
  refine wpAny_bind (wpAny_holding (wpAny_mono h (fun a s₁ ⟨⟨o,c,ho,hc,hd⟩,h₁⟩=>?_) fun _ _ x=>x))
  refine wpAny_bind (wpAny_standAt ?_)
  have hT : s₁.TypeIs (.ref C) "type" := ⟨_,ho,hc⟩
  have hk : wpAny (model prog w) A (keeperOf (.ref C)) (fun k s'=>k = .machine∧s' = s₁) E s₁:=by
    unfold keeperOf
    refine wpAny_bind (wpAny_load ho ?_)
    rw [hd]
    refine wpAny_bind (wpAny_specialOf hT PySem.F.lookup_type_call ?_)
    exact wpAny_pure ⟨rfl,rfl⟩
  refine wpAny_bind (wpAny_mono hk (fun k s' ⟨e1,e2⟩=>?_) fun _ _ x=>x)
  subst e1 e2
  rw [hpl]
  show wpAny _ _ (call (.ref C) a.pos a.kw >>= fun r=>do holding [r] point; pure r) _ _ _
  exact wpAny_bind (wpAny_mono h₁ (fun r s' hr=>wpAny_bind (wpAny_holding (wpAny_point (wpAny_pure hr)))) fun _ _ x=>x)
theorem pe_call_c {x : Str} {C : Addr} {o : Obj} {c : ClassData} {es : List Expr} {ds : List PyData} {d : PyData} (p pos : Pos) (hk : env.kindOf x = some .globalImplicit) (hg : mg x = some (.ref C)) (ho : K.lookup C = some o) (hoc : o.cls = .type "type") (hod : o.data = .cls c)
    (hc : CC prog w K mg mb A (.ref C) ds d) (h : PEs prog w K mg mb A env ρ es ds) (hd : (x == ("__debug__" : Str)) = false:=by decide) : PE prog w K mg mb A env ρ (.Call (.Name x p) es [] pos) d:=fun E s mt S =>
  Call_Name rfl (nm_g S hk hg (callWith_class (any_plain h) (wpAny_mono (pe_args h S) (fun a s₁ ⟨e,k1,r1⟩=>by
    rw [e]
    exact ⟨⟨_,_,(S.keeps k1).gl.k _ _ ho,hoc,hod⟩,wpAny_mono (hc E s₁ mt a.pos (S.keeps k1).gl (S.keeps k1).mex r1) (fun v s₂ ⟨k2,r2⟩=>⟨Keeps.trans' k1 k2,r2⟩) fun _ _ e=>e⟩) fun _ _ e=>e)) hd)
noncomputable def NewAtD (s : Shared) (Q : Value→Shared→Prop) (o : Addr→Obj) : Prop:=∀ (a dd : Addr) (h : Heap) (tk : Nat),(∀ b ob,s.heap.get? b = some ob→h.get? b = some ob)→s.heap.get? a = none→s.heap.get? dd = none→h.get? a = some (o dd)→h.get? dd = some { cls:=.type "dict",data:=.dict #[] }→Q (.ref a) ⟨h,s.gens,s.drawn,tk,s.os⟩
noncomputable def MisNew (prog : Program) (w : World) (K : Frag) : Prop:=∀ (E : Value→Shared→Prop) (s : Shared) (Q : Value→Shared→Prop) (i j : Int) (t u : Tok) (b : Addr),K.In s.heap→NewAtD s Q (fun dd=>{ cls:=.ref 135,dict:=some dd,data:=.seq #[.int i t,.int j u,.ref b] 0 }) →
  wpAny (model prog w) AX (call (.ref 135) [.int i t,.int j u,.ref b]) Q E s
noncomputable def mis (x : Int × Int × Int) : PyData:=.dict [(.tuple [.int x.1,.int x.2.1,one x.2.2],.none)]
theorem cc_mis (hM : MisNew prog w K) (hh : A.handled = none) (hd : A.depth ≤ 900) (hu : A.units ≤ 2000) (x : Int × Int × Int) : CC prog w K mg mb A (.ref 135) [.int x.1,.int x.2.1,one x.2.2] (mis x):=fun E s mt vs G hex r=>by
  refine hideG fun zD zhD=>?_
  obtain ⟨v1,vs,rfl,r1,r⟩:=r.cons_inv
  obtain ⟨v2,vs,rfl,r2,r⟩:=r.cons_inv
  obtain ⟨v3,vs,rfl,r3,r⟩:=r.cons_inv
  refine zhD ?_
  clear zhD zD
  obtain rfl:=r.nil_inv
  refine hideG fun zD zhD=>?_
  refine e1a1 r1.int_inv fun t zr363=>?_
  subst zr363
  refine e1a1 r2.int_inv fun u zr364=>?_
  subst zr364
  refine e3a2 (one_inv r3) fun b _ _ zr365 _=>?_
  subst zr365
  refine zhD ?_
  clear zhD zD
  refine of_AX hh hd hu (hM E s _ _ _ t u b G.k fun a dd h tk hk ha hda ho hdo=>?_)
  refine ⟨Keeps.of hk,.mkMis (vs:=[.int x.1 t,.int x.2.1 u,.ref b]) ho (not_mt hex ha) hdo (not_mt hex hda) (.cons (.int _ _) (.cons (.int _ _) (.cons (r3.ext hk) .nil)))⟩
end
end Mine
namespace Mine
open PySem PySem.W PyProof.Rows PySem.Calls
section
variable {prog : Program} {w : World} {K : Frag} {mg mb : Str→Option Value} {A : Around} {env : Env} {ρ : List (Str × PyData)}
theorem src_range2 {e1 e2 : Expr} {p pos : Pos} {a n : Nat} (hh : A.handled = none) (hk : env.kindOf "range" = some .globalImplicit) (hg : mg "range" = none) (hb : mb "range" = some (.type "range")) (h1 : PE prog w K mg mb A env ρ e1 (.int (a : Nat))) (h2 : PE prog w K mg mb A env ρ e2 (.int ((a + n : Nat) : Int))) (hn : a + n < 1000000)
    (he1 : ∀ rest,starEach (e1 :: rest) env = (false,eval e1 env) :: starEach rest env:=by intro _; rfl) (he2 : ∀ rest,starEach (e2 :: rest) env = (false,eval e2 env) :: starEach rest env:=by intro _; rfl) :
    Src prog w K mg mb A env ρ (.Call (.Name "range" p) [e1,e2] [] pos) ((List.range n).map fun i=>.int ((a + i : Nat) : Int)):=fun E s mt S=>by
  refine Call_Name rfl (nm_b S hk hg hb (PyProof.Rows.callWith_type (any_plain (.cons h1 he1 (.cons h2 he2 .nil))) (wpAny_mono (pe_args (.cons h1 he1 (.cons h2 he2 .nil)) S) (fun ar s₁ ⟨ek,k1,r1⟩=>?_) fun _ _ e=>e)))
  obtain ⟨pos',kw⟩:=ar
  simp only at ek r1
  subst ek
  refine e2a3 r1.cons_inv fun v vs' zr324 r2 r3=>?_
  subst zr324
  refine e2a3 r3.cons_inv fun v2 vs'' zr325 r4 r5=>?_
  subst zr325
  obtain rfl:=r5.nil_inv
  refine e1a1 r2.int_inv fun t zr326=>?_
  subst zr326
  refine e1a1 r4.int_inv fun u zr327=>?_
  subst zr327
  refine call_range_2 ?_
  refine wpAny_pyIter_range (IsRange.new ..) (small_one (by lia) (by lia) (by lia) (by lia)) ?_
  have hsz : Builtin.Range.rangeSize (a : Nat) ((a + n : Nat) : Int) 1 = ((n : Nat) : Int):=by rw [rangeSize_one]; split <;> lia
  refine genE (s₁.heap.push { cls:=.type "range",data:=.fields #[.int (a : Nat) t,.int ((a + n : Nat) : Int) u,.int 1 s₁.toks] }) fun H1 hH1=>?_
  have hk1 : ∀ b o,s₁.heap.get? b = some o→H1.get? b = some o:=fun b o e=>hH1 ▸ Heap.get?_push_of_some _ e
  have hs1 : H1.objs.size = s₁.heap.objs.size + 1:=by rw [← hH1,Heap.size_push]
  have hnew : ∀ b o,s.heap.get? b = some o→b < s₁.heap.objs.size:=fun b o e=>Heap.lt_size (Keeps.ext k1 _ _ e)
  have W:=(Walks.range (prog:=prog) (w:=w) hh H1.objs.size (a : Nat) 1 n)
  have hlen : ((List.range n).map fun i=>PyData.int ((a + i : Nat) : Int)).length = n:=by simp
  rw [← hlen] at W
  refine ⟨Keeps.trans' k1 (Keeps.of fun b o e=>Heap.get?_push_of_some _ (hk1 b o e)),H1.objs.size,[H1.objs.size],[H1.objs.size],_,_,rfl,W,?_,?_,?_,?_,?_,?_,?_⟩
  · rw [hlen]
    have e1 : ((a : Nat) : Int) + ((0 : Nat) : Int) * 1 = (a : Nat):=by simp
    have e2 : ((n : Int) - ((0 : Nat) : Int)) = Builtin.Range.rangeSize (a : Nat) ((a + n : Nat) : Int) 1:=by rw [hsz]; simp
    rw [e1,e2]
    exact Heap.get?_push_size _ rfl
  · intro b hb
    rcases List.mem_cons.mp hb with rfl | hb
    · show _ < (H1.push _).objs.size; rw [Heap.size_push]; exact Nat.lt_succ_self _
    · cases hb
  · intro b hb
    rcases List.mem_cons.mp hb with rfl | hb
    · cases e : s.heap.get? H1.objs.size with
      | none=>rfl
      | some o=>exact absurd (hnew _ _ e) (by show ¬ H1.objs.size < _; rw [hs1]; exact Nat.not_lt.mpr (Nat.le_succ _))
    · cases hb
  · intro i v hi hv
    rw [hlen] at hi
    refine e1a1 hv fun t' zr328=>?_
    subst zr328
    refine ⟨.int ((a + i : Nat) : Int),by simp [hi],?_⟩
    have : ((a : Nat) : Int) + (i : Int) * 1 = ((a + i : Nat) : Int):=by simp
    rw [this]
    exact .int _ _
  · intro i tg v s' Q E' hst hQ
    exact lot_plain hst rfl (by decide) hQ
  · intro i h hst b hb
    rcases List.mem_cons.mp hb with rfl | hb
    · exact ⟨_,hst⟩
    · cases hb
  · intro b hb
    rcases List.mem_cons.mp hb with rfl | hb
    · intro hm
      refine e1a1 (S.mex _ hm) fun o e=>?_
      exact absurd (hnew _ _ e) (by show ¬ H1.objs.size < _; rw [hs1]; exact Nat.not_lt.mpr (Nat.le_succ _))
    · cases hb
end
end Mine
namespace Mine
open PySem PySem.W PyProof.Rows PySem.Calls
section
variable {prog : Program} {w : World} {K : Frag} {mg mb : Str→Option Value} {A : Around} {env : Env} {ρ : List (Str × PyData)} {s0 s : Shared} {mt : List Addr} {E : Value→Shared→Prop} {Q : Flow→Shared→Prop}
theorem ex_object {x : Str} {p np cp pos : Pos} {rest : List Stmt} (F : Fm K mg mb s0 env mt ρ s) (hx : env.kindOf x = some .local ∨ env.kindOf x = some .cell) (hh : A.handled = none) (hd : A.depth ≤ 900) (hu : A.units ≤ 2000)
    (hk : env.kindOf "object" = some .globalImplicit) (hg : mg "object" = none) (hb : mb "object" = some (.type "object"))
    (h : ∀ s' a,s.heap.get? a = none→Fm K mg mb s0 env mt ((x,thing a) :: ρ) s'→Kl env [x] s s'→wpAny (model prog w) A (execs rest env) Q E s')
    (hsw : swapsWith (.Call (.Name "object" np) [] [] cp) (some (.Name x p)) pos.line env = pure false:=by rfl) :
    wpAny (model prog w) A (execs (.Assign [.Name x p] (.Call (.Name "object" np) [] [] cp) pos :: rest) env) Q E s:=by
  refine wpAny_execs_cons (wpAny_Assign_Name (Call_Name rfl (nm_b F.sv hk hg hb (PyProof.Rows.callWith_type rfl (evalArgs_nil3 ?_)))) hsw)
  refine of_AX hh hd hu (obj_newX fun a dd h' tk hk' ha ho=>?_)
  have k1 : Keeps s ⟨h',s.gens,s.drawn,tk,s.os⟩:=⟨h',tk,rfl,hk'⟩
  exact (F.keeps k1).store hx (.mkThing ho (not_mt F.mex ha)) fun s' F' k'=>h s' a ha F' (Kl.trans (Kl.of k1) k')
end
end Mine
namespace Mine
open PySem PySem.W PyProof.Rows PySem.Calls
section
variable {prog : Program} {w : World} {K : Frag} {mg mb : Str→Option Value} {A : Around}
theorem cc_count {xs : List PyData} {d : PyData} (hA : Aok 0 A) (hxs : PyData.canLayAll0 xs = true) (hd : d.canLay0 = true) (hdep : d.depth ≤ 20) :
    CC prog w K mg mb A (.builtin "list.count") [.list xs,d] (.int (xs.countP fun y=>PyData.eqv y d : Nat)):=fun E s mt vs _ _ r=>by
  refine e2a3 r.cons_inv fun v vs' zr175 r1 r2=>?_
  subst zr175
  refine e2a3 r2.cons_inv fun x vs'' zr176 r3 r4=>?_
  subst zr176
  obtain rfl:=r4.nil_inv
  refine e2a4 r1.list_inv fun a ws zr177 hn zs178 rs=>?_
  subst zr177
  refine e1a1 zs178 fun n ho=>?_
  refine e1a1 (rs.all hxs) fun as qs=>?_
  refine e1a1 (r3.all hd) fun bs qx=>?_
  refine call_meets PySem.F.slot_list_count ⟨_,ho,rfl⟩ PySem.F.entry_list_count (PySem.F.args_list_count_2 _ _)
    (SeqAt.list_countAt a ws.toArray n none #[] x (fun y=>PyData.eqv (SeqAt.readOf s.heap y) d)) ⟨ho,SeqAt.items_eqAt (by simpa using qs) qx hxs hd (by have:=hA.un; have : min (PyData.depthAll xs) d.depth ≤ d.depth:=Nat.min_le_right _ _; lia),?_⟩
  have e : ws.toArray.toList.countP (fun y=>PyData.eqv (SeqAt.readOf s.heap y) d) = xs.countP fun y=>PyData.eqv y d:=by
    rw [← SeqAt.readsAll_map xs _ _ hxs qs,List.countP_map]; rfl
  rw [e]
  exact ⟨Keeps.tok _,.int _ _⟩
theorem cc_index {xs : List PyData} {d : PyData} {j : Nat} (hA : Aok 0 A) (hxs : PyData.canLayAll0 xs = true) (hd : d.canLay0 = true) (hdep : d.depth ≤ 20)
    (hj : j < xs.length) (hsm : j < 1000000) (hit : PyData.eqv xs[j] d = true) (hno : ∀ m (hm : m < xs.length),m < j→PyData.eqv xs[m] d = false) :
    CC prog w K mg mb A (.builtin "list.index") [.list xs,d] (.int (j : Nat)):=fun E s mt vs _ _ r=>by
  refine e2a3 r.cons_inv fun v vs' zr179 r1 r2=>?_
  subst zr179
  refine e2a3 r2.cons_inv fun x vs'' zr180 r3 r4=>?_
  subst zr180
  obtain rfl:=r4.nil_inv
  refine e2a4 r1.list_inv fun a ws zr181 hn zs182 rs=>?_
  subst zr181
  refine e1a1 zs182 fun n ho=>?_
  refine e1a1 (rs.all hxs) fun as qs=>?_
  refine e1a1 (r3.all hd) fun bs qx=>?_
  have hl : ws.length = xs.length:=rs.length
  have em:=SeqAt.readsAll_map xs _ _ hxs qs
  have eg : ∀ m (hm : m < ws.toArray.size),SeqAt.readOf s.heap ws.toArray[m] = xs[m]'(by simpa [hl] using hm):=fun m hm=>by
    have h1 : (ws.map (SeqAt.readOf s.heap))[m]? = xs[m]?:=by rw [em]
    have hm' : m < ws.length:=by simpa using hm
    rw [List.getElem?_map,List.getElem?_eq_getElem hm',List.getElem?_eq_getElem (by lia)] at h1
    simpa using h1
  refine call_meets PySem.F.slot_list_index ⟨_,ho,rfl⟩ PySem.F.entry_list_index (PySem.F.args_list_index_2 _ _)
    (SeqAt.list_indexAt a ws.toArray n none #[] x (fun y=>PyData.eqv (SeqAt.readOf s.heap y) d) j (by simp; lia) (by lia) (by rw [eg j (by simp; lia)]; exact hit) (fun m hm hlt=>by rw [eg m hm]; exact hno m _ hlt))
    ⟨ho,SeqAt.items_eqAt (by simpa using qs) qx hxs hd (by have:=hA.un; have : min (PyData.depthAll xs) d.depth ≤ d.depth:=Nat.min_le_right _ _; lia),?_⟩
  exact ⟨Keeps.tok _,.int _ _⟩
theorem cc_indexI {ns : List Int} {k : Int} (hA : Aok 0 A) (hk : k ∈ ns) (hz : ns.length < 1000000) :
    CC prog w K mg mb A (.builtin "list.index") [.list (ns.map .int),.int k] (.int (ns.idxOf k : Nat)):=by
  have hlt : ns.idxOf k < ns.length:=List.idxOf_lt_length_of_mem hk
  refine cc_index hA (ke_canLayAll0 ns) rfl (by simp [PyData.depth]) (by simpa using hlt) (by lia) ?_ ?_
  · simp [PyData.eqv]
  · intro m hm hlt'
    have hm' : m < ns.length:=by simpa using hm
    have : ns[m] ≠ k:=by
      intro e
      have:=List.not_of_lt_findIdx (p:=(· == k)) (xs:=ns) (i:=m) hlt'
      simp [e] at this
    simp [PyData.eqv,this]
theorem cc_sum {ns : List Int} (hA : Aok 0 A) : CC prog w K mg mb A (.builtin "sum") [.list (ns.map .int)] (.int ns.sum):=fun E s mt vs G hex r=>by
  refine e2a3 r.cons_inv fun v vs' zr183 r1 r2=>?_
  subst zr183
  obtain rfl:=r2.nil_inv
  refine e2a4 r1.list_inv fun a ws zr184 hn hl rs=>?_
  subst zr184
  have hi:=rs.ints
  refine e1a1 hi.allInts.items fun xs hxs=>?_
  have hl':=hl.isList
  rw [hxs] at hl'
  refine sum_intListG hA.hd hl' fun h' tk t' hk=>?_
  have e : preSum (numAt xs) xs.size = ns.sum:=by
    rw [preSum_eq,List.take_of_length_le (by simp),← nums_intItems,← hxs]
    rw [show ws.toArray.toList = ws from rfl,hi.numsOf]
  rw [e]
  exact ⟨Keeps.of hk,.int _ _⟩
theorem cc_max2 {a b : Int} (hA : Aok 0 A) : CC prog w K mg mb A (.builtin "max") [.int a,.int b] (.int (if b > a then b else a)):=fun E s mt vs G hex r=>by
  refine e2a3 r.cons_inv fun v vs' zr185 r1 r2=>?_
  subst zr185
  refine e2a3 r2.cons_inv fun x vs'' zr186 r3 r4=>?_
  subst zr186
  obtain rfl:=r4.nil_inv
  refine e1a1 r1.int_inv fun t zr187=>?_
  subst zr187
  refine e1a1 r3.int_inv fun u zr188=>?_
  subst zr188
  refine max_two_ints hA.hd fun h' tk hk=>⟨Keeps.of hk,?_⟩
  split <;> exact .int _ _
theorem cc_min2 {a b : Int} (hA : Aok 0 A) : CC prog w K mg mb A (.builtin "min") [.int a,.int b] (.int (if b < a then b else a)):=fun E s mt vs G hex r=>by
  refine e2a3 r.cons_inv fun v vs' zr189 r1 r2=>?_
  subst zr189
  refine e2a3 r2.cons_inv fun x vs'' zr190 r3 r4=>?_
  subst zr190
  obtain rfl:=r4.nil_inv
  refine e1a1 r1.int_inv fun t zr191=>?_
  subst zr191
  refine e1a1 r3.int_inv fun u zr192=>?_
  subst zr192
  refine min_two_ints hA.hd fun h' tk hk=>⟨Keeps.of hk,?_⟩
  split <;> exact .int _ _
end
noncomputable def pickL {α : Type} (xs : List α) (lo hi st : Option Int) : List α :=
  (sliceRange (sliceBounds lo hi st xs.length).1 (sliceBounds lo hi st xs.length).2.1 (sliceBounds lo hi st xs.length).2.2).filterMap (xs[·]?)
theorem pickL_map {α β : Type} (f : α→β) (xs : List α) (lo hi st : Option Int) : pickL (xs.map f) lo hi st = (pickL xs lo hi st).map f:=by
  unfold pickL
  rw [List.length_map,List.map_filterMap]
  congr 1
  funext i
  rw [List.getElem?_map]
theorem pick_eq (vs : List Value) (lo hi st : Option Int) : slicePick vs.toArray lo hi st = (pickL vs lo hi st).toArray:=by
  unfold slicePick pickL
  congr 1
  rw [List.size_toArray]
  congr 1
  funext x
  simp
theorem RpA.filterMap {h : Heap} {mt : List Addr} {vs : List Value} {ds : List PyData} (r : RpA h mt vs ds) : ∀ l : List Nat,RpA h mt (l.filterMap (vs[·]?)) (l.filterMap (ds[·]?))
  | []=>.nil
  | i :: l=>by
    cases e : ds[i]? with
    | none =>
      have e' : vs[i]? = none:=by
        rw [List.getElem?_eq_none_iff] at e ⊢
        rw [r.length]; exact e
      rw [List.filterMap_cons_none e',List.filterMap_cons_none e]
      exact r.filterMap l
    | some d =>
      refine e1a2 (r.get e) fun v hv hr=>?_
      rw [List.filterMap_cons_some hv,List.filterMap_cons_some e]
      exact .cons hr (r.filterMap l)
theorem RpA.pick {h : Heap} {mt : List Addr} {vs : List Value} {ds : List PyData} (r : RpA h mt vs ds) (lo hi st : Option Int) : RpA h mt (pickL vs lo hi st) (pickL ds lo hi st):=by
  unfold pickL
  rw [r.length]
  exact r.filterMap _
theorem pickL_len {α : Type} (xs : List α) (lo hi st : Option Int) : (pickL xs lo hi st).length ≤ xs.length:=by
  have z:=slicePick_size_le (xs.map fun _=>Value.none).toArray lo hi st
  rw [pick_eq,pickL_map] at z
  simpa using z
section
variable {prog : Program} {w : World} {K : Frag} {mg mb : Str→Option Value} {A : Around} {env : Env} {ρ : List (Str × PyData)}
noncomputable def PO (prog : Program) (w : World) (K : Frag) (mg mb : Str→Option Value) (A : Around) (env : Env) (ρ : List (Str × PyData)) : Option Expr→Option Int→Prop
  | none,o=>o = none
  | some e,o=>∃ i,o = some i∧PE prog w K mg mb A env ρ e (.int i)
theorem po_run {x : Option Expr} {o : Option Int} (h : PO prog w K mg mb A env ρ x o) {E : Value→Shared→Prop} {s : Shared} {mt : List Addr} (S : Sv K mg mb env mt ρ s) :
    wpAny (model prog w) A (evalPart x env) (fun v s'=>Keeps s s'∧IsPart v o) E s:=by
  cases x with
  | none=>subst h; exact wpAny_pure ⟨Keeps.rfl',.none⟩
  | some e =>
    refine e1a2 h fun i zr193 he=>?_
    subst zr193
    exact wpAny_mono (he E s mt S) (fun v s' ⟨k,r⟩=>by obtain ⟨t,rfl⟩:=r.int_inv; exact ⟨k,.int _ _⟩) fun _ _ e=>e
theorem pe_slice {value : Expr} {lower upper step : Option Expr} {p pos : Pos} {ds : List PyData} {lo hi st : Option Int} (hv : PE prog w K mg mb A env ρ value (.list ds)) (h1 : PO prog w K mg mb A env ρ lower lo) (h2 : PO prog w K mg mb A env ρ upper hi) (h3 : PO prog w K mg mb A env ρ step st)
    (h0 : st ≠ some 0) (hz : ds.length ≤ sizeLine) : PE prog w K mg mb A env ρ (.Subscript value (.Slice lower upper step p) pos) (.list (pickL ds lo hi st)):=fun E s mt S=>by
  refine Subscript_ (wpAny_mono (hv E s mt S) (fun v s₁ ⟨k1,r1⟩=>?_) fun _ _ e=>e)
  refine wpAny_Slice (wpAny_mono (po_run h1 (S.keeps k1)) (fun l s₂ ⟨k2,q1⟩=>wpAny_mono (po_run h2 ((S.keeps k1).keeps k2)) (fun u s₃ ⟨k3,q2⟩=>wpAny_mono (po_run h3 (((S.keeps k1).keeps k2).keeps k3)) (fun t s₄ ⟨k4,q3⟩=>?_) fun _ _ e=>e) fun _ _ e=>e) fun _ _ e=>e)
  have k:=Keeps.trans' k1 (Keeps.trans' k2 (Keeps.trans' k3 k4))
  have r4:=r1.ext (Keeps.ext (Keeps.trans' k2 (Keeps.trans' k3 k4)))
  refine hideG fun zD zhD=>?_
  refine e2a4 r4.list_inv fun a vs zr194 hn hl rs=>?_
  subst zr194
  refine zhD ?_
  clear zhD zD
  have hg : ∀ (ops : List Value),subscripted (.Slice lower upper step p) false (.ref a) (.ref s₄.heap.objs.size) = operate ops (getItem (.ref a) (.ref s₄.heap.objs.size)) →
      wpAny (model prog w) A (subscriptTail value (.Slice lower upper step p) (.ref a) (.ref s₄.heap.objs.size)) (fun v s'=>Keeps s s'∧Rp s'.heap mt v (.list (pickL ds lo hi st))) E { s₄ with heap:=s₄.heap.push { cls:=.type "slice",data:=.fields #[l,u,t] } }:=by
    intro ops ho
    refine tail_any (s:={ s₄ with heap:=s₄.heap.push { cls:=.type "slice",data:=.fields #[l,u,t] } }) (Heap.IsList.typeIs (s:={ s₄ with heap:=s₄.heap.push { cls:=.type "slice",data:=.fields #[l,u,t] } }) (hl.isList.push _)) slot_list_getitem.lookup
      (wpAny_getItem_list_slice (s:={ s₄ with heap:=s₄.heap.push { cls:=.type "slice",data:=.fields #[l,u,t] } }) (hl.isList.push _) (Heap.IsSliceOf.new ..) q1 q2 q3 h0 ⟨?_,?_⟩ (by simp [rs.length]; exact hz)) ho
    · exact Keeps.trans' k (Keeps.trans' (Keeps.push _) (Keeps.push _))
    · rw [pick_eq]
      refine .mkList ⟨_,Heap.get?_push_size _ rfl⟩ ((S.keeps k).keeps (Keeps.push _)).new (((rs.pick lo hi st).ext fun _ _ e=>Heap.get?_push_of_some _ e).ext fun _ _ e=>Heap.get?_push_of_some _ e)
  cases step with
  | none=>exact hg _ rfl
  | some e=>exact hg _ rfl
theorem pe_addL {l r : Expr} {ds es : List PyData} (pos : Pos) (hl : PE prog w K mg mb A env ρ l (.list ds)) (hr : PE prog w K mg mb A env ρ r (.list es)) (hz : ds.length + es.length ≤ sizeLine) : PE prog w K mg mb A env ρ (.BinOp l .Add r pos) (.list (ds ++ es)):=fun E s mt S =>
  wpAny_BinOp (pe_two S hl hr fun x y s' k S' rx ry=>by
    refine e2a4 rx.list_inv fun a vs zr195 _ zs196 rs=>?_
    subst zr195
    refine e1a1 zs196 fun n ho=>?_
    refine e2a4 ry.list_inv fun b ws zr197 _ zs198 rs'=>?_
    subst zr197
    refine e1a1 zs198 fun n' ho'=>?_
    refine PySem.P.add_list (items:=vs.toArray) (items2:=ws.toArray) (n:=n) (n2:=n') ho ho' ⟨Keeps.trans' k (Keeps.push _),?_⟩ (by simp [rs.length,rs'.length]; exact hz)
    have e : vs.toArray ++ ws.toArray = (vs ++ ws).toArray:=by simp
    rw [e]
    exact .mkList ⟨_,Heap.get?_push_size _ rfl⟩ S'.new ((rs.append rs').ext fun _ _ e=>Heap.get?_push_of_some _ e))
end
end Mine
namespace Mine
open PySem PySem.W PyProof.Rows PySem.Calls
noncomputable def gtP (a b : Int × Int) : Bool:=if a.1 = b.1 then decide (a.2 > b.2) else decide (a.1 > b.1)
noncomputable def ltP (a b : Int × Int) : Bool:=if a.1 = b.1 then decide (a.2 < b.2) else decide (a.1 < b.1)
noncomputable def encP (p : Int × Int) : PyData:=.tuple [.int p.1,.int p.2]
noncomputable def PairAt (h : Heap) (a : Addr) (p : Int × Int) : Prop:=∃ t u n,h.get? a = some { cls:=.type "tuple",data:=.seq #[.int p.1 t,.int p.2 u] n }
section
variable {prog : Program} {w : World} {A : Around} {E : Value→Shared→Prop} {s : Shared}
theorem PairAt.typeIs {a : Addr} {p : Int × Int} (h : PairAt s.heap a p) : s.TypeIs (.ref a) "tuple" := by
  obtain ⟨t,u,n,ho⟩:=h
  exact ⟨_,ho,rfl⟩
theorem pair_gt {a b : Addr} {p q : Int × Int} {Q : Value→Shared→Prop} (hu : A.units < cLine) (ha : PairAt s.heap a p) (hb : PairAt s.heap b q) (h : Q (.bool (gtP p q)) s) :
    wpAny (model prog w) A (richCompare .Gt (.ref a) (.ref b)) Q E s:=by
  have hTa:=ha.typeIs
  have hTb:=hb.typeIs
  refine e3a1 ha fun t u n hoa=>?_
  refine e3a1 hb fun t' u' n' hob=>?_
  refine wpAny_richCompare_same_room (op:=.Gt) hTa hTb PySem.F.slot_tuple_gt (wpAny_call_entry PySem.F.slot_tuple_gt hTa PySem.F.entry_tuple_gt ?_ (PySem.F.args_tuple_gt_2 _ _)) hu
  show wpAny _ _ (isInstance (.ref b) (.type "tuple") >>= _) _ _ s
  refine wpAny_bind (wpAny_isInstance hTb isSubtype_tuple_tuple ?_)
  simp only [Bool.not_true,Bool.false_eq_true,if_false]
  refine wpAny_bind (wpAny_tupleItemsOf hoa rfl ?_)
  refine wpAny_bind (wpAny_tupleItemsOf hob rfl ?_)
  refine wpAny_bind ?_
  rw [show (#[Value.int p.1 t,.int p.2 u].toList.zip #[Value.int q.1 t',.int q.2 u'].toList) = [(Value.int p.1 t,Value.int q.1 t'),(.int p.2 u,.int q.2 u')] from rfl,List.forIn_cons]
  refine wpAny_bind (wpAny_bind (wpAny_eqBool_int ?_))
  by_cases h1 : p.1 = q.1
  · have e : (p.1 == q.1) = true:=by simp [h1]
    rw [e]
    simp only [Bool.not_true,Bool.false_eq_true,if_false]
    refine wpAny_pure ?_
    dsimp only
    rw [List.forIn_cons]
    refine wpAny_bind (wpAny_bind (wpAny_eqBool_int ?_))
    by_cases h2 : p.2 = q.2
    · have e : (p.2 == q.2) = true:=by simp [h2]
      rw [e]
      simp only [Bool.not_true,Bool.false_eq_true,if_false]
      refine wpAny_pure ?_
      dsimp only
      rw [List.forIn_nil]
      refine wpAny_pure (wpAny_pure ⟨_,rfl,?_⟩)
      refine ⟨(fun e=>nomatch e),?_⟩
      have : gtP p q = false:=by simp [gtP,h1,h2]
      rw [this] at h
      exact h
    · have e : (p.2 == q.2) = false:=by simp [h2]
      rw [e]
      simp only [Bool.not_false,if_true]
      refine wpAny_bind (wpAny_rule (wpAny_bind ?_))
      refine PySem.P.gt_int (show wpAny _ _ _ _ _ _ from wpAny_bind (wpAny_pure (wpAny_pure (wpAny_pure (wpAny_pure ⟨_,rfl,(fun e=>nomatch e),?_⟩)))))
      have : gtP p q = decide (p.2 > q.2):=by simp [gtP,h1]
      rw [this] at h
      exact h
  · have e : (p.1 == q.1) = false:=by simp [h1]
    rw [e]
    simp only [Bool.not_false,if_true]
    refine wpAny_bind (wpAny_rule (wpAny_bind ?_))
    refine PySem.P.gt_int (show wpAny _ _ _ _ _ _ from wpAny_bind (wpAny_pure (wpAny_pure (wpAny_pure (wpAny_pure ⟨_,rfl,(fun e=>nomatch e),?_⟩)))))
    have : gtP p q = decide (p.1 > q.1):=by simp [gtP,h1]
    rw [this] at h
    exact h
end
noncomputable def CmpIn (prog : Program) (w : World) (A : Around) (op : CmpOp) (J : Heap→Prop) (P : Nat→Value→Prop) (bt : Nat→Nat→Bool) : Prop :=
  ∀ i j vi vj (s : Shared) (Q : Value→Shared→Prop) (E : Value→Shared→Prop),J s.heap→P i vi→P j vj→Q (.bool (bt i j)) s→wpAny (model prog w) A (richCompare op vi vj) Q E s
section
variable {prog : Program} {w : World} {A : Around} {R : Result→Shared→Prop} {I : Addr} {fp wr : List Addr} {n : Nat} {P : Nat→Value→Prop} {St : Nat→Heap→Prop} {J : Heap→Prop}
theorem max_loop (W : Walks prog w A.in1 I fp wr n P St) (bt : Nat→Nat→Bool) (hcmp : CmpIn prog w A.in1 .Gt J P bt) (S : Addr) (hSf : S ∉ fp)
    (hJ : ∀ h h',J h→(∀ b o,b ∉ wr→b ≠ S→h.get? b = some o→h'.get? b = some o)→J h') :
    ∀ (k j : Nat) (s : Shared) (vb : Value) (c : Nat),n - (j + 1) = k→j + 1 ≤ n→J s.heap→St (j + 1) s.heap→P (argBest bt j) vb →
    s.heap.get? S = some { cls:=.type "list",dict:=none,data:=.seq #[vb,vb] c,slots:=#[] } →
    (∀ v h' tk,P (argBest bt (n - 1)) v→(∀ b o,b ∉ wr→b ≠ S→s.heap.get? b = some o→h'.get? b = some o)→R (.ok (.ret v)) { s with heap:=h',toks:=tk }) →
    codeAny (model prog w) A (.builtin "max.loop" ⟨[.ref I,.none,.ref S],[]⟩) R s:=by
  have hSw : S ∉ wr:=fun h=>hSf (W.sub _ h)
  have hname : (toString "max" ++ toString ".loop" : String) = "max.loop" := by decide
  intro k
  induction k with
  | zero =>
    intro j s vb c hk hj hj0 hst hPb hS hR
    have hin : j + 1 = n:=by omega
    refine codeAny_builtin PySem.F.entry_max_loop ?_
    rw [Around.under_plainId PySem.F.plain_max_loop _]
    show wpAny _ A.in1 (seqItems? (.ref S) >>= _) _ _ s
    refine wpAny_bind (wpAny_seqItems hS rfl ?_)
    show wpAny _ A.in1 (tryCatch (pyNext (.ref I)) _ >>= _) _ _ s
    refine wpAny_bind (wpAny_tryCatch (W.done s _ _ (hin ▸ hst) fun h' tk hk'=>?_))
    have hS':=hk' S _ hSw hS
    show wpAny _ A.in1 (updateSeq S (fun _=>#[]) >>= _) _ _ _
    refine wpAny_bind ?_
    refine wpAny_updateSeq hS' rfl (wpAny_bind (wpAny_letGo (wpAny_pure ?_)))
    refine hR vb _ tk (by rw [← hin]; exact hPb) fun b o hbw hbS e=>(Heap.get?_update_other _ _ (Ne.symm hbS)).trans (hk' b o hbw e)
  | succ k ih =>
    intro j s vb c hk hj hj0 hst hPb hS hR
    have hlt : j + 1 < n:=by omega
    refine codeAny_builtin PySem.F.entry_max_loop ?_
    rw [Around.under_plainId PySem.F.plain_max_loop _]
    show wpAny _ A.in1 (seqItems? (.ref S) >>= _) _ _ s
    refine wpAny_bind (wpAny_seqItems hS rfl ?_)
    show wpAny _ A.in1 (tryCatch (pyNext (.ref I)) _ >>= _) _ _ s
    refine wpAny_bind (wpAny_tryCatch (W.item (j + 1) s _ _ hlt hst fun v h' tk hP hst' hk'=>?_))
    have hS':=hk' S _ hSw hS
    have hj1 : J h':=hJ _ _ hj0 fun b o hb _ e=>hk' b o hb e
    show wpAny _ A.in1 (tryCatch (holding [v,v] (richCompare .Gt v vb >>= _)) _ >>= _) _ _ _
    refine wpAny_bind (wpAny_tryCatch (wpAny_holding (wpAny_bind (hcmp (j + 1) (argBest bt j) v vb _ _ _ hj1 hP hPb ?_))))
    refine wpAny_bind (wpAny_holding (wpAny_truthy_bool ?_))
    refine wpAny_bind (wpAny_letGo (wpAny_pure ?_))
    cases hb : bt (j + 1) (argBest bt j) with
    | true =>
      simp only [if_true]
      refine wpAny_bind ?_
      refine wpAny_updateSeq hS' rfl (wpAny_bind (wpAny_letGo ?_))
      rw [hname]
      refine wpAny_pure ⟨plainId_quiet PySem.F.plain_max_loop _,ih (j + 1) _ v _ (by omega) hlt (hJ _ _ hj1 fun b o _ hbS e=>(Heap.get?_update_other _ _ (Ne.symm hbS)).trans e) (W.frame _ _ _ hst' fun b hbf o e=>?_) (by simp only [argBest,hb,if_true]; exact hP) (Heap.get?_update_self _ hS' rfl)
        fun v' h'' tk'' hP' hk''=>?_⟩
      · exact (Heap.get?_update_other _ _ (fun h : S = b=>hSf (by rw [h]; exact hbf))).trans e
      · exact hR v' h'' tk'' hP' fun b o hbw hbS e=>hk'' b o hbw hbS ((Heap.get?_update_other _ _ (Ne.symm hbS)).trans (hk' b o hbw e))
    | false =>
      simp only [Bool.false_eq_true,if_false]
      refine wpAny_bind (wpAny_letGo ?_)
      rw [hname]
      refine wpAny_pure ⟨plainId_quiet PySem.F.plain_max_loop _,ih (j + 1) _ vb c (by omega) hlt hj1 hst' (by simp only [argBest,hb,Bool.false_eq_true,if_false]; exact hPb) hS' fun v' h'' tk'' hP' hk''=>?_⟩
      exact hR v' h'' tk'' hP' fun b o hbw hbS e=>hk'' b o hbw hbS (hk' b o hbw e)
theorem max_first (W : Walks prog w A.in1 I fp wr n P St) (bt : Nat→Nat→Bool) (hcmp : CmpIn prog w A.in1 .Gt J P bt) (S : Addr) (hSf : S ∉ fp)
    (hJ : ∀ h h',J h→(∀ b o,b ∉ wr→b ≠ S→h.get? b = some o→h'.get? b = some o)→J h') (hn : 0 < n) {s : Shared} {c : Nat} (hj0 : J s.heap) (hst : St 0 s.heap)
    (hS : s.heap.get? S = some { cls:=.type "list",dict:=none,data:=.seq #[] c,slots:=#[] })
    (hR : ∀ v h' tk,P (argBest bt (n - 1)) v→(∀ b o,b ∉ wr→b ≠ S→s.heap.get? b = some o→h'.get? b = some o)→R (.ok (.ret v)) { s with heap:=h',toks:=tk }) :
    codeAny (model prog w) A (.builtin "max.loop" ⟨[.ref I,.none,.ref S],[]⟩) R s:=by
  have hSw : S ∉ wr:=fun h=>hSf (W.sub _ h)
  have hname : (toString "max" ++ toString ".loop" : String) = "max.loop" := by decide
  refine codeAny_builtin PySem.F.entry_max_loop ?_
  rw [Around.under_plainId PySem.F.plain_max_loop _]
  show wpAny _ A.in1 (seqItems? (.ref S) >>= _) _ _ s
  refine wpAny_bind (wpAny_seqItems hS rfl ?_)
  show wpAny _ A.in1 (tryCatch (pyNext (.ref I)) _ >>= _) _ _ s
  refine wpAny_bind (wpAny_tryCatch (W.item 0 s _ _ hn hst fun v h' tk hP hst' hk'=>?_))
  have hS':=hk' S _ hSw hS
  have hj1 : J h':=hJ _ _ hj0 fun b o hb _ e=>hk' b o hb e
  show wpAny _ A.in1 (updateSeq S (fun _=>#[v,v]) >>= _) _ _ _
  refine wpAny_bind ?_
  refine wpAny_updateSeq hS' rfl ?_
  rw [hname]
  refine wpAny_pure ⟨plainId_quiet PySem.F.plain_max_loop _,max_loop W bt hcmp S hSf hJ _ 0 _ v _ rfl hn (hJ _ _ hj1 fun b o _ hbS e=>(Heap.get?_update_other _ _ (Ne.symm hbS)).trans e) (W.frame _ _ _ hst' fun b hbf o e=>?_) hP (Heap.get?_update_self _ hS' rfl) fun v' h'' tk'' hP' hk''=>?_⟩
  · exact (Heap.get?_update_other _ _ (fun h : S = b=>hSf (by rw [h]; exact hbf))).trans e
  · exact hR v' h'' tk'' hP' fun b o hbw hbS e=>hk'' b o hbw hbS ((Heap.get?_update_other _ _ (Ne.symm hbS)).trans (hk' b o hbw e))
end
noncomputable def maxP : List (Int × Int)→Int × Int
  | []=>(0,0)
  | p :: ps=>ps.foldl (fun m q=>if gtP q m then q else m) p
theorem argBest_maxP (f : Nat→Int × Int) : ∀ k,f (argBest (fun i j=>gtP (f i) (f j)) k) = maxP ((List.range (k + 1)).map f)
  | 0=>rfl
  | k + 1=>by
    have ih:=argBest_maxP f k
    rw [List.range_succ,List.map_append,List.map_singleton]
    obtain ⟨p,ps,e⟩ : ∃ p ps,(List.range (k + 1)).map f = p :: ps:=by
      cases h : (List.range (k + 1)).map f with
      | nil=>simp at h
      | cons p ps=>exact ⟨p,ps,rfl⟩
    rw [e] at ih ⊢
    simp only [maxP,List.cons_append,List.foldl_append,List.foldl_cons,List.foldl_nil] at ih ⊢
    rw [← ih]
    simp only [argBest]
    split <;> rfl
section
variable {prog : Program} {w : World} {K : Frag} {mg mb : Str→Option Value} {A : Around}
theorem pairAt_of {h : Heap} {mt : List Addr} {v : Value} {p : Int × Int} (r : Rp h mt v (encP p)) : ∃ a,v = .ref a∧PairAt h a p:=by
  refine e3a4 r.tuple_inv fun a vs n zr45 _ ho rs=>?_
  subst zr45
  refine e2a3 rs.cons_inv fun x xs zr46 r1 r2=>?_
  subst zr46
  refine e2a3 r2.cons_inv fun y ys zr47 r3 r4=>?_
  subst zr47
  obtain rfl:=r4.nil_inv
  refine e1a1 r1.int_inv fun t zr48=>?_
  subst zr48
  refine e1a1 r3.int_inv fun u zr49=>?_
  subst zr49
  exact ⟨a,rfl,t,u,n,ho⟩
theorem cc_maxP {ps : List (Int × Int)} (hA : Aok 1 A) (hne : ps ≠ []) : CC prog w K mg mb A (.builtin "max") [.list (ps.map encP)] (encP (maxP ps)):=fun E s mt vs G hex r=>by
  refine hideG fun zD zhD=>?_
  refine e2a3 r.cons_inv fun v vs' zr50 r1 r2=>?_
  subst zr50
  refine zhD ?_
  clear zhD zD
  obtain rfl:=r2.nil_inv
  refine hideG fun zD zhD=>?_
  refine e2a4 r1.list_inv fun a ws zr51 hn hl rs=>?_
  subst zr51
  refine zhD ?_
  clear zhD zD
  have hlen : ws.length = ps.length:=by simpa using rs.length
  have hname : (toString "max" ++ toString ".loop" : String) = "max.loop" := by decide
  have hin : A.in1.units < cLine:=by
    have:=hA.un
    rw [units_in1]
    lia
  have hlt : a < s.heap.objs.size:=let ⟨_,e⟩:=hl; Heap.lt_size e
  have hlI:=hl.isList
  refine call_function_tree PySem.F.kind_max PySem.F.plain_max PySem.F.entry_max (PySem.F.args_max1 _) ?_
  show wpAny _ A.in1 (Builtin.Builtins.bindParams "max" ["key","default"] 0 ⟨[],[]⟩ >>= _) _ _ s
  refine wpAny_bind (wpAny_of_eq (show Builtin.Builtins.bindParams "max" ["key","default"] 0 ⟨[],[]⟩ = pure [none,none] from rfl) ?_)
  refine wpAny_bind (wpAny_pure (wpAny_bind (wpAny_pyIter_list hlI (wpAny_bind (wpAny_newObj_type ?_)))))
  rw [hname]
  refine genE ({ s with heap:=s.heap.push { cls:=.type "list_iterator",data:=.fields #[.ref a,.int 0 0] } } : Shared) fun s₂ hs2=>?_
  have z2 : s₂.heap.objs.size = s.heap.objs.size + 1:=by subst hs2; exact Heap.size_push _ _
  have k2 : ∀ b o,s.heap.get? b = some o→s₂.heap.get? b = some o:=by subst hs2; exact fun b o e=>Heap.get?_push_of_some _ e
  have hit : s₂.heap.IsListIter s.heap.objs.size a 0:=by subst hs2; exact ⟨_,Heap.get?_push_size _ rfl,rfl,rfl⟩
  let J : Heap→Prop:=fun h=>∀ (i : Nat) (v : Value),ws.toArray[i]? = some v→∃ (b : Addr) (p : Int × Int),v = .ref b∧ps[i]? = some p∧b < s.heap.objs.size∧PairAt h b p
  have hJ0 : J s.heap:=fun i v e=>by
    refine hideG fun zD zhD=>?_
    refine e1a2 (rs.get' (i:=i) (v:=v) (by simpa using e)) fun d hd hr=>?_
    refine zhD ?_
    clear zhD zD
    rw [List.getElem?_map,Option.map_eq_some_iff] at hd
    refine hideG fun zD zhD=>?_
    refine e1a2 hd fun p hp zr52=>?_
    subst zr52
    refine e1a2 (pairAt_of hr) fun b zr53 hb=>?_
    subst zr53
    have hb':=hb
    refine e3a1 hb' fun _ _ _ ho=>?_
    refine zhD ?_
    clear zhD zD
    exact ⟨b,p,rfl,hp,Heap.lt_size ho,hb⟩
  have hJJ : ∀ h h',J h→(∀ b o,b < s.heap.objs.size→h.get? b = some o→h'.get? b = some o)→J h':=fun h h' hj hk i v e=>by
    refine hideG fun zD zhD=>?_
    refine e2a4 (hj i v e) fun b p zr54 hp hb zt55=>?_
    refine e3a1 zt55 fun t u n ho=>?_
    subst zr54
    refine zhD ?_
    clear zhD zD
    exact ⟨b,p,rfl,hp,hb,t,u,n,hk b _ hb ho⟩
  have hfr : ∀ {h h' : Heap} {L : List Addr} {S : Addr},S = s.heap.objs.size + 1→L = [s.heap.objs.size]→(∀ b o,b ∉ L→b ≠ S→h.get? b = some o→h'.get? b = some o)→∀ b o,b < s.heap.objs.size→h.get? b = some o→h'.get? b = some o:=by
    rintro h h' _ _ rfl rfl hk b o hb e
    refine hk b o (fun hm=>?_) (fun hm=>?_) e
    · rw [List.mem_singleton] at hm; exact Nat.lt_irrefl _ (hm ▸ hb)
    · subst hm; exact Nat.lt_irrefl _ (Nat.lt_of_succ_lt hb)
  have hnl : 0 < ws.toArray.size:=by
    rw [List.size_toArray,hlen]; exact List.length_pos_iff.mpr hne
  refine wpAny_pure ⟨plainId_quiet PySem.F.plain_max_loop _,max_first (J:=J) (Walks.list (A:=A.in1) hA.hd s.heap.objs.size a (Nat.ne_of_lt hlt) ws.toArray) (fun i j=>gtP (ps.getD i (0,0)) (ps.getD j (0,0))) ?_ s₂.heap.objs.size ?_ ?_ hnl ?_ ?_ (Heap.get?_push_size _ rfl) ?_⟩
  · intro i j vi vj s' Q E hj hi hjv h
    refine hideG fun zD zhD=>?_
    refine e2a4 (hj i vi hi) fun b p zr56 hp _ hb=>?_
    subst zr56
    refine e2a4 (hj j vj hjv) fun c q zr57 hq _ hc=>?_
    subst zr57
    refine zhD ?_
    clear zhD zD
    refine pair_gt hin hb hc ?_
    simpa [List.getD_eq_getElem?_getD,hp,hq] using h
  · intro hm
    rw [z2] at hm
    simp only [List.mem_cons,List.not_mem_nil,or_false] at hm
    rcases hm with hm | hm
    · exact Nat.succ_ne_self _ hm
    · rw [← hm] at hlt; exact Nat.lt_irrefl _ (Nat.lt_of_succ_lt hlt)
  · intro h h' hj hk
    exact hJJ h h' hj (hfr z2 rfl hk)
  · exact hJJ _ _ hJ0 fun b o _ e=>Heap.get?_push_of_some _ (k2 b o e)
  · refine hideG fun zD zhD=>?_
    refine e1a2 hit fun o1 e1 r1=>?_
    refine e1a2 hlI fun o2 e2 r2=>?_
    refine zhD ?_
    clear zhD zD
    exact ⟨⟨o1,Heap.get?_push_of_some _ e1,r1⟩,⟨o2,Heap.get?_push_of_some _ (k2 _ _ e2),r2⟩⟩
  · intro v h' tk hP hk
    have hk' : ∀ b o,s.heap.get? b = some o→h'.get? b = some o:=fun b o e=>hfr z2 rfl hk b o (Heap.lt_size e) (Heap.get?_push_of_some _ (k2 b o e))
    subst hs2
    refine ⟨Keeps.of hk',?_⟩
    refine hideG fun zD zhD=>?_
    refine e1a2 (rs.get' (v:=v) ((List.getElem?_toArray ..).symm.trans hP)) fun d hd hr=>?_
    refine zhD ?_
    clear zhD zD
    rw [List.getElem?_map,Option.map_eq_some_iff] at hd
    refine hideG fun zD zhD=>?_
    refine e1a2 hd fun p hp zr58=>?_
    subst zr58
    refine zhD ?_
    clear zhD zD
    have e:=argBest_maxP (fun i=>ps.getD i (0,0)) (ws.toArray.size - 1)
    rw [List.getD_eq_getElem?_getD,hp] at e
    have e2 : (List.range (ws.toArray.size - 1 + 1)).map (fun i=>ps.getD i (0,0)) = ps:=by
      rw [Nat.sub_add_cancel hnl,List.size_toArray,hlen]
      apply List.ext_getElem?
      intro i
      by_cases hi : i < ps.length
      · simp [List.getElem?_map,List.getElem?_range hi,hi]
      · simp [hi]
    rw [e2] at e
    rw [← e]
    exact hr.ext hk'
end
end Mine
namespace Mine
open PySem PySem.W PyProof.Rows PySem.Calls
abbrev Fo:=(Int × Int) × Int
noncomputable def ltF (x y : Fo) : Bool:=if x.1 = y.1 then decide (x.2 < y.2) else ltP x.1 y.1
noncomputable def encF (x : Fo) : PyData:=.tuple [encP x.1,.int x.2]
noncomputable def kasRun {α : Type} (lt : Nat→Nat→Bool) : KasT α→α
  | .ret a=>a
  | .ask i j k=>kasRun lt (k (lt i j))
noncomputable def kasOk {α : Type} (n : Nat) (lt : Nat→Nat→Bool) : KasT α→Bool
  | .ret _=>true
  | .ask i j k=>decide (i < n) && decide (j < n) && kasOk n lt (k (lt i j))
theorem kasRun_congr {α : Type} {n : Nat} {lt lt' : Nat→Nat→Bool} (h : ∀ i j,i < n→j < n→lt i j = lt' i j) : ∀ t : KasT α,kasOk n lt' t = true→kasRun lt t = kasRun lt' t∧kasOk n lt t = true
  | .ret _,_=>⟨rfl,rfl⟩
  | .ask i j k,hk=>by
    simp only [kasOk,Bool.and_eq_true,decide_eq_true_eq] at hk
    have e:=h i j hk.1.1 hk.1.2
    refine e0a2 (kasRun_congr h (k (lt' i j)) hk.2) fun h1 h2=>?_
    simp only [kasRun,kasOk,e,Bool.and_eq_true,decide_eq_true_eq]
    exact ⟨h1,hk.1,h2⟩
theorem kasWp_run {α : Type} {n : Nat} {lt : Nat→Nat→Bool} {cmp : Nat→Nat→(Bool→Shared→Prop)→Shared→Prop} {s : Shared} (hc : ∀ i j (C : Bool→Shared→Prop),i < n→j < n→C (lt i j) s→cmp i j C s) {Q : α→Shared→Prop} :
    ∀ t : KasT α,kasOk n lt t = true→Q (kasRun lt t) s→t.kasWp cmp Q s
  | .ret _,_,h=>h
  | .ask i j k,hk,h=>by
    simp only [kasOk,Bool.and_eq_true,decide_eq_true_eq] at hk
    exact hc i j _ hk.1.1 hk.1.2 (kasWp_run hc (k (lt i j)) hk.2 h)
noncomputable def ltB (b : Nat→Nat→Bool) (i j : Nat) : Bool:=if i < j then b i j else if j < i then !b j i else false
noncomputable def transB (n : Nat) (lt : Nat→Nat→Bool) : Bool:=(List.range n).all fun i=>(List.range n).all fun j=>(List.range n).all fun k=>!(lt i j && lt j k) || lt i k
noncomputable def pwB (lt : Nat→Nat→Bool) : List Nat→Bool
  | []=>true
  | x :: l=>l.all (fun y=>lt x y) && pwB lt l
noncomputable def goodB (n : Nat) (lt : Nat→Nat→Bool) : Bool:=kasOk n lt (kas_sort n) && ((kasRun lt (kas_sort n)).toList.isPerm (List.range n) && (!transB n lt || pwB lt (kasRun lt (kas_sort n)).toList))
noncomputable def bits (b01 b02 b03 b04 b12 b13 b14 b23 b24 b34 : Bool) : Nat→Nat→Bool
  | 0,1=>b01 | 0,2=>b02 | 0,3=>b03 | 0,4=>b04 | 1,2=>b12 | 1,3=>b13 | 1,4=>b14 | 2,3=>b23 | 2,4=>b24 | 3,4=>b34 | _,_=>false
theorem good5 : ∀ b01 b02 b03 b04 b12 b13 b14 b23 b24 b34 : Bool,goodB 5 (ltB (bits b01 b02 b03 b04 b12 b13 b14 b23 b24 b34)) = true:=by decide +kernel
theorem good4 (b04 b14 b24 b34 : Bool) : ∀ b01 b02 b03 b12 b13 b23 : Bool,goodB 4 (ltB (bits b01 b02 b03 b04 b12 b13 b14 b23 b24 b34)) = true:=of_decide_eq_true (by kernel_rfl)
theorem good3 (b03 b13 b23 b04 b14 b24 b34 : Bool) : ∀ b01 b02 b12 : Bool,goodB 3 (ltB (bits b01 b02 b03 b04 b12 b13 b14 b23 b24 b34)) = true:=of_decide_eq_true (by kernel_rfl)
theorem good2 (b02 b12 b03 b13 b23 b04 b14 b24 b34 : Bool) : ∀ b01 : Bool,goodB 2 (ltB (bits b01 b02 b03 b04 b12 b13 b14 b23 b24 b34)) = true:=of_decide_eq_true (by kernel_rfl)
theorem good_bits : ∀ b01 b02 b03 b04 b12 b13 b14 b23 b24 b34 : Bool,goodB 5 (ltB (bits b01 b02 b03 b04 b12 b13 b14 b23 b24 b34)) = true∧goodB 4 (ltB (bits b01 b02 b03 b04 b12 b13 b14 b23 b24 b34)) = true∧goodB 3 (ltB (bits b01 b02 b03 b04 b12 b13 b14 b23 b24 b34)) = true∧goodB 2 (ltB (bits b01 b02 b03 b04 b12 b13 b14 b23 b24 b34)) = true:=
  fun b01 b02 b03 b04 b12 b13 b14 b23 b24 b34=>⟨good5 b01 b02 b03 b04 b12 b13 b14 b23 b24 b34,good4 b04 b14 b24 b34 b01 b02 b03 b12 b13 b23,good3 b03 b13 b23 b04 b14 b24 b34 b01 b02 b12,good2 b02 b12 b03 b13 b23 b04 b14 b24 b34 b01⟩
end Mine
namespace Mine
open PySem PySem.W PyProof.Rows PySem.Calls
theorem pwB_congr {n : Nat} {lt lt' : Nat→Nat→Bool} (h : ∀ i j,i < n→j < n→lt i j = lt' i j) : ∀ l : List Nat,(∀ x ∈ l,x < n)→pwB lt' l = true→l.Pairwise fun i j=>lt i j = true
  | [],_,_=>.nil
  | x :: l,hl,hp=>by
    simp only [pwB,Bool.and_eq_true,List.all_eq_true] at hp
    refine .cons (fun y hy=>?_) (pwB_congr h l (fun z hz=>hl z (.tail _ hz)) hp.2)
    rw [h x y (hl x (.head _)) (hl y (.tail _ hy))]
    exact hp.1 y hy
theorem sort_order {n : Nat} {lt : Nat→Nat→Bool} (h2 : 2 ≤ n) (h5 : n ≤ 5) (irr : ∀ i,i < n→lt i i = false) (tot : ∀ i j,i < j→j < n→lt j i = !lt i j)
    (tr : ∀ i j k,i < n→j < n→k < n→lt i j = true→lt j k = true→lt i k = true) :
    kasOk n lt (kas_sort n) = true∧(kasRun lt (kas_sort n)).toList.Perm (List.range n)∧(kasRun lt (kas_sort n)).toList.Pairwise fun i j=>lt i j = true:=by
  have ag : ∀ i j,i < n→j < n→lt i j = ltB (bits (lt 0 1) (lt 0 2) (lt 0 3) (lt 0 4) (lt 1 2) (lt 1 3) (lt 1 4) (lt 2 3) (lt 2 4) (lt 3 4)) i j:=by
    have up : ∀ i j,i < j→j < n→lt i j = bits (lt 0 1) (lt 0 2) (lt 0 3) (lt 0 4) (lt 1 2) (lt 1 3) (lt 1 4) (lt 2 3) (lt 2 4) (lt 3 4) i j:=by
      intro i j hij hj
      have hj5 : j < 5:=by lia
      have c : (i = 0∧j = 1) ∨ (i = 0∧j = 2) ∨ (i = 0∧j = 3) ∨ (i = 0∧j = 4) ∨ (i = 1∧j = 2) ∨ (i = 1∧j = 3) ∨ (i = 1∧j = 4) ∨ (i = 2∧j = 3) ∨ (i = 2∧j = 4) ∨ (i = 3∧j = 4):=(show ∀ j i : Fin 5,i.1 < j.1→(i.1 = 0∧j.1 = 1) ∨ (i.1 = 0∧j.1 = 2) ∨ (i.1 = 0∧j.1 = 3) ∨ (i.1 = 0∧j.1 = 4) ∨ (i.1 = 1∧j.1 = 2) ∨ (i.1 = 1∧j.1 = 3) ∨ (i.1 = 1∧j.1 = 4) ∨ (i.1 = 2∧j.1 = 3) ∨ (i.1 = 2∧j.1 = 4) ∨ (i.1 = 3∧j.1 = 4) from by decide) ⟨j,hj5⟩ ⟨i,Nat.lt_trans hij hj5⟩ hij
      rcases c with ⟨rfl,rfl⟩ | ⟨rfl,rfl⟩ | ⟨rfl,rfl⟩ | ⟨rfl,rfl⟩ | ⟨rfl,rfl⟩ | ⟨rfl,rfl⟩ | ⟨rfl,rfl⟩ | ⟨rfl,rfl⟩ | ⟨rfl,rfl⟩ | ⟨rfl,rfl⟩ <;> rfl
    intro i j hi hj
    unfold ltB
    rcases Nat.lt_trichotomy i j with h | h | h
    · rw [if_pos h,up i j h hj]
    · subst h; rw [if_neg (Nat.lt_irrefl _),if_neg (Nat.lt_irrefl _),irr i hi]
    · rw [if_neg (Nat.lt_asymm h),if_pos h,tot j i h hi,up j i h hi]
  generalize hL : ltB (bits (lt 0 1) (lt 0 2) (lt 0 3) (lt 0 4) (lt 1 2) (lt 1 3) (lt 1 4) (lt 2 3) (lt 2 4) (lt 3 4)) = lt' at ag
  have g : goodB n lt' = true:=by
    have:=good_bits (lt 0 1) (lt 0 2) (lt 0 3) (lt 0 4) (lt 1 2) (lt 1 3) (lt 1 4) (lt 2 3) (lt 2 4) (lt 3 4)
    rw [hL] at this
    have hc : n = 2 ∨ n = 3 ∨ n = 4 ∨ n = 5:=by lia
    rcases hc with rfl | rfl | rfl | rfl
    · exact this.2.2.2
    · exact this.2.2.1
    · exact this.2.1
    · exact this.1
  simp only [goodB,Bool.and_eq_true,Bool.or_eq_true,Bool.not_eq_true'] at g
  refine hideG fun zD zhD=>?_
  refine e0a3 g fun g1 g2 g3=>?_
  refine e0a2 (kasRun_congr ag (kas_sort n) g1) fun e1 e2=>?_
  refine zhD ?_
  clear zhD zD
  rw [e1]
  have hp:=List.isPerm_iff.mp g2
  refine ⟨e2,hp,pwB_congr ag _ (fun x hx=>List.mem_range.mp (hp.mem_iff.mp hx)) (g3.resolve_left fun h=>?_)⟩
  have : transB n lt' = true:=by
    simp only [transB,List.all_eq_true,List.mem_range,Bool.or_eq_true,Bool.not_eq_true',Bool.and_eq_false_iff]
    intro i hi j hj k hk
    rw [← ag i j hi hj,← ag j k hj hk,← ag i k hi hk]
    cases h1 : lt i j
    · exact .inl (.inl rfl)
    · cases h2 : lt j k
      · exact .inl (.inr rfl)
      · exact .inr (tr i j k hi hj hk h1 h2)
  rw [this] at h
  cases h
theorem ltF_irr (a : Fo) : ltF a a = false:=by simp [ltF]
theorem ltF_tot {a b : Fo} (h : a.2 ≠ b.2) : ltF b a = !ltF a b:=by
  obtain ⟨⟨a1,a2⟩,a3⟩:=a
  obtain ⟨⟨b1,b2⟩,b3⟩:=b
  simp only [ltF,ltP,Prod.mk.injEq] at h ⊢
  rw [Bool.eq_iff_iff]
  simp only [Bool.not_eq_true']
  repeat' split
  all_goals simp only [decide_eq_true_eq,decide_eq_false_iff_not] at *
  all_goals lia
theorem ltF_trans {a b c : Fo} (h : ltF a b = true) (h' : ltF b c = true) : ltF a c = true:=by
  obtain ⟨⟨a1,a2⟩,a3⟩:=a
  obtain ⟨⟨b1,b2⟩,b3⟩:=b
  obtain ⟨⟨c1,c2⟩,c3⟩:=c
  simp only [ltF,ltP,Prod.mk.injEq] at h h' ⊢
  repeat' split at h
  all_goals repeat' split at h'
  all_goals repeat' split
  all_goals simp only [decide_eq_true_eq] at *
  all_goals lia
end Mine
namespace Mine
open PySem PySem.W PyProof.Rows PySem.Calls
noncomputable def FoAt (h : Heap) (v : Value) (x : Fo) : Prop:=∃ a b t n,v = .ref a∧h.get? a = some { cls:=.type "tuple",data:=.seq #[.ref b,.int x.2 t] n }∧PairAt h b x.1
theorem PairAt.ext {h h' : Heap} {a : Addr} {p : Int × Int} (x : PairAt h a p) (e : ∀ o,h.get? a = some o→o.cls = .type "tuple" → h'.get? a = some o) : PairAt h' a p:=by
  obtain ⟨t,u,n,ho⟩:=x
  exact ⟨t,u,n,e _ ho rfl⟩
theorem FoAt.ext {h h' : Heap} {v : Value} {x : Fo} (q : FoAt h v x) (e : ∀ a o,h.get? a = some o→o.cls = .type "tuple" → h'.get? a = some o) : FoAt h' v x:=by
  obtain ⟨a,b,t,n,rfl,ho,hp⟩:=q
  exact ⟨a,b,t,n,rfl,e _ _ ho rfl,hp.ext (e _)⟩
theorem foAt_of {h : Heap} {mt : List Addr} {v : Value} {x : Fo} (r : Rp h mt v (encF x)) : FoAt h v x:=by
  refine e3a4 r.tuple_inv fun a vs n zr244 _ ho rs=>?_
  subst zr244
  refine e2a3 rs.cons_inv fun y ys zr245 r1 r2=>?_
  subst zr245
  refine e2a3 r2.cons_inv fun z zs zr246 r3 r4=>?_
  subst zr246
  obtain rfl:=r4.nil_inv
  refine e1a2 (pairAt_of r1) fun b zr247 hb=>?_
  subst zr247
  refine e1a1 r3.int_inv fun t zr248=>?_
  subst zr248
  exact ⟨a,b,t,n,rfl,ho,hb⟩
section
variable {prog : Program} {w : World} {A : Around} {E : Value→Shared→Prop} {s : Shared}
theorem pair_lt {a b : Addr} {p q : Int × Int} {Q : Value→Shared→Prop} (hu : A.units < cLine) (ha : PairAt s.heap a p) (hb : PairAt s.heap b q) (h : Q (.bool (ltP p q)) s) :
    wpAny (model prog w) A (richCompare .Lt (.ref a) (.ref b)) Q E s:=by
  have hTa:=ha.typeIs
  have hTb:=hb.typeIs
  refine e3a1 ha fun t u n hoa=>?_
  refine e3a1 hb fun t' u' n' hob=>?_
  refine wpAny_richCompare_same_room (op:=.Lt) hTa hTb PySem.F.slot_tuple_lt (wpAny_call_entry PySem.F.slot_tuple_lt hTa PySem.F.entry_tuple_lt ?_ (PySem.F.args_tuple_lt_2 _ _)) hu
  show wpAny _ _ (isInstance (.ref b) (.type "tuple") >>= _) _ _ s
  refine wpAny_bind (wpAny_isInstance hTb isSubtype_tuple_tuple ?_)
  simp only [Bool.not_true,Bool.false_eq_true,if_false]
  refine wpAny_bind (wpAny_tupleItemsOf hoa rfl ?_)
  refine wpAny_bind (wpAny_tupleItemsOf hob rfl ?_)
  refine wpAny_bind ?_
  rw [show (#[Value.int p.1 t,.int p.2 u].toList.zip #[Value.int q.1 t',.int q.2 u'].toList) = [(Value.int p.1 t,Value.int q.1 t'),(.int p.2 u,.int q.2 u')] from rfl,List.forIn_cons]
  refine wpAny_bind (wpAny_bind (wpAny_eqBool_int ?_))
  by_cases h1 : p.1 = q.1
  · have e : (p.1 == q.1) = true:=by simp [h1]
    rw [e]
    simp only [Bool.not_true,Bool.false_eq_true,if_false]
    refine wpAny_pure ?_
    dsimp only
    rw [List.forIn_cons]
    refine wpAny_bind (wpAny_bind (wpAny_eqBool_int ?_))
    by_cases h2 : p.2 = q.2
    · have e : (p.2 == q.2) = true:=by simp [h2]
      rw [e]
      simp only [Bool.not_true,Bool.false_eq_true,if_false]
      refine wpAny_pure ?_
      dsimp only
      rw [List.forIn_nil]
      refine wpAny_pure (wpAny_pure ⟨_,rfl,?_⟩)
      refine ⟨(fun e=>nomatch e),?_⟩
      have : ltP p q = false:=by simp [ltP,h1,h2]
      rw [this] at h
      exact h
    · have e : (p.2 == q.2) = false:=by simp [h2]
      rw [e]
      simp only [Bool.not_false,if_true]
      refine wpAny_bind (wpAny_rule (wpAny_bind ?_))
      refine PySem.P.lt_int (show wpAny _ _ _ _ _ _ from wpAny_bind (wpAny_pure (wpAny_pure (wpAny_pure (wpAny_pure ⟨_,rfl,(fun e=>nomatch e),?_⟩)))))
      have : ltP p q = decide (p.2 < q.2):=by simp [ltP,h1]
      rw [this] at h
      exact h
  · have e : (p.1 == q.1) = false:=by simp [h1]
    rw [e]
    simp only [Bool.not_false,if_true]
    refine wpAny_bind (wpAny_rule (wpAny_bind ?_))
    refine PySem.P.lt_int (show wpAny _ _ _ _ _ _ from wpAny_bind (wpAny_pure (wpAny_pure (wpAny_pure (wpAny_pure ⟨_,rfl,(fun e=>nomatch e),?_⟩)))))
    have : ltP p q = decide (p.1 < q.1):=by simp [ltP,h1]
    rw [this] at h
    exact h
theorem PairAt.key {h : Heap} {a : Addr} {p : Int × Int} (x : PairAt h a p) : IsTupleKey (intKind prog w) h [p.1,p.2] a:=by
  obtain ⟨t,u,n,ho⟩:=x
  exact ⟨_,_,n,ho,rfl,rfl,.cons (by simp [intKind,Value.isInt]) (.cons (by simp [intKind,Value.isInt]) .nil)⟩
theorem fo_lt {v u : Value} {x y : Fo} {Q : Bool→Shared→Prop} (hu : A.units < cLine) (hv : FoAt s.heap v x) (hy : FoAt s.heap u y) (h : Q (ltF x y) s) :
    wpAny (model prog w) A (keyLt' (tuples' false) v u) Q E s:=by
  refine hideG fun zD zhD=>?_
  refine e4a3 hv fun a b t n zr249 ho hp=>?_
  subst zr249
  refine e4a3 hy fun a' b' t' n' zr250 ho' hp'=>?_
  subst zr250
  refine zhD ?_
  clear zhD zD
  refine kat_lt ho rfl ho' rfl ?_
  refine kat_cons (wpAny_eqBool_tuple (knd:=intKind prog w) hu (hp.key) (hp'.key) ?_)
  by_cases h1 : x.1 = y.1
  · have e : decide ([x.1.1,x.1.2] = [y.1.1,y.1.2]) = true:=by simp [h1]
    rw [e]
    refine kat_yes (kat_cons (wpAny_eqBool_int ?_))
    have e3 : ltF x y = decide (x.2 < y.2):=by simp [ltF,h1]
    rw [e3] at h
    by_cases h2 : x.2 = y.2
    · have e2 : (x.2 == y.2) = true:=by simp [h2]
      rw [e2]
      refine kat_yes (kat_nil ?_)
      simpa [h2] using h
    · have e2 : (x.2 == y.2) = false:=by simp [h2]
      rw [e2]
      exact kat_no (kat_one _ _ (lt_int h))
  · have e : decide ([x.1.1,x.1.2] = [y.1.1,y.1.2]) = false:=by
      simp only [List.cons.injEq,and_true,decide_eq_false_iff_not]
      rintro zhX
      refine hideG fun zD zhD=>?_
      refine e0a2 zhX fun q1 q2=>?_
      refine zhD ?_
      clear zhD zD
      exact h1 (Prod.ext q1 q2)
    rw [e]
    have e3 : ltF x y = ltP x.1 y.1:=by simp [ltF,h1]
    rw [e3] at h
    exact kat_no (kat_one _ _ (pair_lt hu hp hp' h))
noncomputable def FosAt (h : Heap) : List Value→List Fo→Prop
  | [],[]=>True
  | v :: vs,x :: xs=>FoAt h v x∧FosAt h vs xs
  | _,_=>False
theorem FosAt.ext {h h' : Heap} (e : ∀ a o,h.get? a = some o→o.cls = .type "tuple" → h'.get? a = some o) : ∀ {vs : List Value} {xs : List Fo},FosAt h vs xs→FosAt h' vs xs
  | [],[],_=>trivial
  | _ :: _,_ :: _,q=>⟨q.1.ext e,FosAt.ext e q.2⟩
theorem FosAt.len {h : Heap} : ∀ {vs : List Value} {xs : List Fo},FosAt h vs xs→vs.length = xs.length
  | [],[],_=>rfl
  | _ :: _,_ :: _,q=>by simp [FosAt.len q.2]
theorem FosAt.get {h : Heap} : ∀ {vs : List Value} {xs : List Fo},FosAt h vs xs→∀ i,i < vs.length→FoAt h (vs.getD i Value.none) (xs.getD i ((0,0),0))
  | [],[],_,i,hi=>by simp at hi
  | v :: vs,x :: xs,q,0,_=>q.1
  | v :: vs,x :: xs,q,i + 1,hi=>by
    have:=FosAt.get q.2 i (by simpa using hi)
    simpa using this
theorem fosAt_of {h : Heap} {mt : List Addr} : ∀ {vs : List Value} {xs : List Fo},RpA h mt vs (xs.map encF)→FosAt h vs xs
  | [],xs,r=>by
    cases xs with
    | nil=>trivial
    | cons x xs=>exact absurd r.length (by simp)
  | v :: vs,xs,r=>by
    cases xs with
    | nil=>exact absurd r.length (by simp)
    | cons x xs =>
      obtain ⟨_,_,e,r1,r2⟩:=r.cons_inv'
      simp at e
      obtain ⟨rfl,rfl⟩:=e
      exact ⟨foAt_of r1,fosAt_of r2⟩
theorem FosAt.tups {h : Heap} : ∀ {vs : List Value} {xs : List Fo},FosAt h vs xs→∃ fs : List Value,KatTups h vs fs∧fs.length = vs.length∧∀ v ∈ fs,∃ a o,v = .ref a∧h.get? a = some o∧o.cls = .type "tuple"
  | [],[],_=>⟨[],trivial,rfl,fun _ hv=>absurd hv (by simp)⟩
  | v :: vs,x :: xs,q=>by
    refine e1a3 (FosAt.tups q.2) fun fs h1 h2 h3=>?_
    refine e4a3 q.1 fun a b t n zr251 ho hp=>?_
    subst zr251
    refine ⟨.ref b :: fs,KatTups.cons ho rfl rfl rfl h1,by simp [h2],fun v hv=>?_⟩
    rcases List.mem_cons.mp hv with rfl | hv
    · refine e3a1 hp fun _ _ _ hb=>?_
      exact ⟨b,_,rfl,hb,rfl⟩
    · exact h3 v hv
theorem fo_kind {vs : List Value} {xs : List Fo} {Q : SortKind→Shared→Prop} (hf : FosAt s.heap vs xs) (h2 : 2 ≤ vs.length) (h : Q (tuples' false) s) : wpAny (model prog w) A (keyKind' vs.toArray) Q E s:=by
  refine e1a3 hf.tups fun fs h1 h3 h4=>?_
  refine kat_kind (T:=.type "tuple") h1 (by lia) (fun v hv=>?_) (by decide) (by simpa using h)
  refine e2a3 (h4 v hv) fun a o zr252 ho hc=>?_
  subst zr252
  rw [← hc]
  exact (Looks.ld ho).andThen .now
end
end Mine
namespace Mine
open PySem PySem.W PyProof.Rows PySem.Calls
noncomputable def leF (a b : Fo) : Bool:=!ltF b a
noncomputable def sortF (xs : List Fo) : List Fo:=xs.mergeSort leF
theorem leF_trans (a b c : Fo) (h : leF a b = true) (h' : leF b c = true) : leF a c = true:=by
  refine hideG fun zD zhD=>?_
  obtain ⟨⟨a1,a2⟩,a3⟩:=a
  obtain ⟨⟨b1,b2⟩,b3⟩:=b
  obtain ⟨⟨c1,c2⟩,c3⟩:=c
  refine zhD ?_
  clear zhD zD
  simp only [leF,ltF,ltP,Prod.mk.injEq,Bool.not_eq_true'] at h h' ⊢
  repeat' split at h
  all_goals repeat' split at h'
  all_goals repeat' split
  all_goals simp only [decide_eq_false_iff_not] at *
  all_goals lia
theorem leF_total (a b : Fo) : (leF a b || leF b a) = true:=by
  obtain ⟨⟨a1,a2⟩,a3⟩:=a
  obtain ⟨⟨b1,b2⟩,b3⟩:=b
  simp only [leF,ltF,ltP,Prod.mk.injEq,Bool.or_eq_true,Bool.not_eq_true']
  repeat' split
  all_goals simp only [decide_eq_false_iff_not] at *
  all_goals lia
theorem leF_anti {a b : Fo} (h : leF a b = true) (h' : leF b a = true) : a = b:=by
  obtain ⟨⟨a1,a2⟩,a3⟩:=a
  obtain ⟨⟨b1,b2⟩,b3⟩:=b
  simp only [leF,ltF,ltP,Prod.mk.injEq,Bool.not_eq_true'] at h h' ⊢
  repeat' split at h
  all_goals repeat' split at h'
  all_goals simp only [decide_eq_false_iff_not] at *
  all_goals lia
theorem leF_of_lt {a b : Fo} (h : ltF a b = true) : leF a b = true:=by
  cases e : ltF b a with
  | false=>simp [leF,e]
  | true=>have:=ltF_trans h e; rw [ltF_irr] at this; cases this
theorem sortF_eq {xs ys : List Fo} (hp : ys.Perm xs) (hs : ys.Pairwise fun a b=>ltF a b = true) : ys = sortF xs :=
  List.Perm.eq_of_pairwise (le:=fun a b=>leF a b = true) (fun _ _ _ _=>leF_anti) (hs.imp fun h=>leF_of_lt h) (List.pairwise_mergeSort leF_trans leF_total xs) (hp.trans (List.mergeSort_perm xs leF).symm)
theorem sortF_perm (xs : List Fo) : (sortF xs).Perm xs:=List.mergeSort_perm xs leF
theorem sortF_small {xs : List Fo} (h : xs.length < 2) : sortF xs = xs:=by
  cases xs with
  | nil=>simp [sortF]
  | cons x t =>
    cases t with
    | nil=>exact (sortF_eq (List.Perm.refl _) (List.pairwise_singleton _ _)).symm
    | cons y t=>exact absurd h (by simp only [List.length_cons]; lia)
theorem map_getD_range {α : Type} (xs : List α) (d : α) : (List.range xs.length).map (fun i=>xs.getD i d) = xs:=by
  apply List.ext_getElem?
  intro i
  by_cases hi : i < xs.length
  · simp [List.getElem?_range hi,hi]
  · simp [hi]
theorem perm_sort {xs : List Fo} {p : List Nat} (hp : p.Perm (List.range xs.length)) (hs : p.Pairwise fun i j=>ltF (xs.getD i ((0,0),0)) (xs.getD j ((0,0),0)) = true) : p.map (fun i=>xs.getD i ((0,0),0)) = sortF xs:=by
  refine sortF_eq ?_ ?_
  · have:=hp.map fun i=>xs.getD i ((0,0),0)
    rwa [map_getD_range] at this
  · exact List.pairwise_map.mpr hs
section
variable {prog : Program} {w : World} {A : Around} {E : Value→Shared→Prop} {s : Shared}
theorem fo_sort {a : Addr} {vs : List Value} {xs : List Fo} {n : Nat} {P : PySem.Fin→Shared→Prop} (hu : A.units < cLine) (ho : s.heap.get? a = some (seqObj "list" vs.toArray n)) (hf : FosAt s.heap vs xs) (h5 : vs.length ≤ 5) (hd : (xs.map (·.2)).Nodup)
    (h : ∀ (p : List Nat) (h' : Heap) (c : Nat),p.Perm (List.range xs.length)→p.map (fun i=>xs.getD i ((0,0),0)) = sortF xs→(∀ b o,b ≠ a→s.heap.get? b = some o→h'.get? b = some o)→h'.get? a = some (seqObj "list" (p.map fun i=>vs.getD i Value.none).toArray c)→P (.done (.ret .none)) { s with heap:=h' }) :
    wpAny (model prog w) A (Builtin.«list.sort» ⟨[.ref a],[]⟩) P E s:=by
  have ha : a < s.heap.objs.size:=Heap.lt_size ho
  have s1:=Heap.SameBut.update s.heap a (Obj.mapSeq fun _=>(#[] : Array Value))
  obtain ⟨e1,ho1⟩ : ∃ e1,(s.heap.update a (Obj.mapSeq fun _=>(#[] : Array Value))).get? a = some (seqObj "list" #[] e1):=⟨_,get?_update_seq ho fun _=>#[]⟩
  have hlen : vs.length = xs.length:=hf.len
  rw [list_sort_plain]
  refine wpAny_bind (listItems_at ho rfl ?_)
  refine wpAny_bind (listUpdate_at ho rfl ?_ (by rw [List.size_toArray,sizeLine_eq]; lia) (Nat.zero_le _))
  refine wpAny_bind (seqEpoch_at ho1 rfl ?_)
  refine wpAny_bind (wpAny_newTuple ?_ (by show vs.length ≤ _; rw [sizeLine_eq]; lia))
  refine wpAny_bind (wpAny_newList ?_ (Nat.zero_le _))
  refine wpAny_holding ?_
  show wpAny (model prog w) A _ P E { s with heap:=((s.heap.update a (Obj.mapSeq fun _=>(#[] : Array Value))).push (seqObj "tuple" vs.toArray 0)).push (seqObj "list" #[] 0) }
  have hk : ∀ b o,b ≠ a→s.heap.get? b = some o→(((s.heap.update a (Obj.mapSeq fun _=>(#[] : Array Value))).push (seqObj "tuple" vs.toArray 0)).push (seqObj "list" #[] 0)).get? b = some o:=fun b o hb e =>
    Heap.get?_push_of_some _ (Heap.get?_push_of_some _ ((Heap.get?_update_other _ _ (Ne.symm hb)).trans e))
  have ho3 : (((s.heap.update a (Obj.mapSeq fun _=>(#[] : Array Value))).push (seqObj "tuple" vs.toArray 0)).push (seqObj "list" #[] 0)).get? a = some (seqObj "list" #[] e1):=Heap.get?_push_of_some _ (Heap.get?_push_of_some _ ho1)
  generalize (((s.heap.update a (Obj.mapSeq fun _=>(#[] : Array Value))).push (seqObj "tuple" vs.toArray 0)).push (seqObj "list" #[] 0)) = h₃ at hk ho3
  have hf3 : FosAt h₃ vs xs:=hf.ext fun b o e hc=>hk b o (fun hb=>by subst hb; rw [ho] at e; cases e; simp [seqObj] at hc) e
  have last : ∀ (p : List Nat) (arr : Array Value),p.Perm (List.range xs.length)→p.map (fun i=>xs.getD i ((0,0),0)) = sortF xs→arr = (p.map fun i=>vs.getD i Value.none).toArray →
      wpAny (model prog w) A (do
        let touched:=(← seqEpoch a) != e1
        Builtin.List.listUpdate (.ref a) fun _=>arr
        if touched then rule "list.sort.modified"; raiseError "ValueError" "list modified during sort"
        ret .none) P E { s with heap:=h₃ }:=fun p arr hp hs harr=>by
    subst harr
    have hsz : (p.map fun i=>vs.getD i Value.none).toArray.size = vs.length:=by
      rw [List.size_toArray,List.length_map,hp.length_eq,List.length_range,hlen]
    obtain ⟨c2,hc2⟩ : ∃ c2,(h₃.update a (Obj.mapSeq fun _=>(p.map fun i=>vs.getD i Value.none).toArray)).get? a = some (seqObj "list" (p.map fun i=>vs.getD i Value.none).toArray c2):=⟨_,get?_update_seq ho3 fun _=>(p.map fun i=>vs.getD i Value.none).toArray⟩
    refine wpAny_bind (seqEpoch_at (s:={ s with heap:=h₃ }) ho3 rfl ?_)
    refine wpAny_bind (listUpdate_at (s:={ s with heap:=h₃ }) ho3 rfl ?_ (Nat.zero_le _) (Nat.le_trans (Nat.le_of_eq hsz) (by rw [sizeLine_eq]; lia)))
    simp only [bne_self_eq_false,Bool.false_eq_true,if_false]
    exact wpAny_pure (h p _ c2 hp hs (fun b o hb e=>(Heap.get?_update_other _ _ (Ne.symm hb)).trans (hk b o hb e)) hc2)
  dsimp only
  by_cases hn2 : vs.toArray.size < 2
  · rw [if_pos hn2,if_pos hn2]
    rw [List.size_toArray] at hn2
    refine wpAny_bind (wpAny_pure ?_)
    rw [StateT.run_pure]
    refine wpAny_bind (wpAny_pure ?_)
    refine last (List.range xs.length) _ (List.Perm.refl _) ?_ ?_
    · rw [map_getD_range,sortF_small (by lia)]
    · rw [← hlen,map_getD_range]
      show (vs.toArray.zip vs.toArray).map (·.2) = vs.toArray
      have z : (vs.zip vs).map Prod.snd = vs:=List.map_snd_zip (Nat.le_refl _)
      simp
      exact z
  · rw [if_neg hn2,if_neg hn2]
    have h2 : 2 ≤ vs.length:=by rw [List.size_toArray] at hn2; lia
    refine wpAny_bind (fo_kind (s:={ s with heap:=h₃ }) hf3 h2 ?_)
    have so:=sort_order (n:=vs.length) (lt:=fun i j=>ltF (xs.getD i ((0,0),0)) (xs.getD j ((0,0),0))) h2 h5 (fun i _=>ltF_irr _) (fun i j hij hj=>ltF_tot fun e=>?_) (fun i j k _ _ _=>ltF_trans)
    · refine e0a3 so fun so1 so2 so3=>?_
      have ask : (kas_sort vs.length).kasWp (kas_ask prog w A (tuples' false) vs) (fun p s'=>p = kasRun (fun i j=>ltF (xs.getD i ((0,0),0)) (xs.getD j ((0,0),0))) (kas_sort vs.length)∧s' = { s with heap:=h₃ }) { s with heap:=h₃ }:=by
        refine kasWp_run (n:=vs.length) (lt:=fun i j=>ltF (xs.getD i ((0,0),0)) (xs.getD j ((0,0),0))) (fun i j C hi hj hC=>?_) _ so1 ⟨rfl,rfl⟩
        exact fo_lt (s:={ s with heap:=h₃ }) hu (hf3.get i hi) (hf3.get j hj) hC
      refine wpAny_bind (wpAny_mono (kat_run (Q:=fun st' s'=>∃ p : Array Nat,arrOf st' = p.map (kas_item (vs.toArray.zip vs.toArray))∧failedOf st' = none∧p = kasRun (fun i j=>ltF (xs.getD i ((0,0),0)) (xs.getD j ((0,0),0))) (kas_sort vs.length)∧s' = { s with heap:=h₃ })
        rfl h2 (by lia) (fun p' st' s' _ a2 a3 a4=>⟨p',a2,a3,a4⟩) ask) ?_ fun _ _ e=>e)
      rintro ⟨⟨⟩,st'⟩ s' ⟨p,har,hf',hp,rfl⟩
      dsimp only
      rw [hf',kat_snds rfl har]
      rw [hlen] at so2
      rw [hp,hlen]
      rw [hlen] at so3
      exact last _ _ so2 (perm_sort so2 so3) rfl
    · have hi' : i < xs.length:=by lia
      have hj' : j < xs.length:=by lia
      rw [List.getD_eq_getElem?_getD,List.getD_eq_getElem?_getD,List.getElem?_eq_getElem hi',List.getElem?_eq_getElem hj'] at e
      have:=(List.pairwise_iff_getElem.mp hd) i j (by simpa using hi') (by simpa using hj') hij
      simp at this e
      exact this e
end
section
variable {prog : Program} {w : World} {K : Frag} {mg mb : Str→Option Value} {A : Around}
theorem RpA.getD {h : Heap} {mt : List Addr} {vs : List Value} {xs : List Fo} (r : RpA h mt vs (xs.map encF)) : ∀ p : List Nat,(∀ i ∈ p,i < vs.length)→RpA h mt (p.map fun i=>vs.getD i Value.none) ((p.map fun i=>xs.getD i ((0,0),0)).map encF)
  | [],_=>.nil
  | i :: p,hp=>by
    have hi:=hp i (.head _)
    have hl : vs.length = xs.length:=by simpa using r.length
    have hx : i < xs.length:=by lia
    refine e1a2 (r.get (i:=i) (d:=encF xs[i]) (by simp [hx])) fun v hv hr=>?_
    refine .cons ?_ (r.getD p fun j hj=>hp j (.tail _ hj))
    show Rp h mt (vs.getD i Value.none) (encF (xs.getD i ((0,0),0)))
    rw [List.getD_eq_getElem?_getD,hv,List.getD_eq_getElem?_getD,List.getElem?_eq_getElem hx]
    exact hr
theorem cc_sorted {xs : List Fo} (hA : Aok 1 A) (h5 : xs.length ≤ 5) (hd : (xs.map (·.2)).Nodup) : CC prog w K mg mb A (.builtin "sorted") [.list (xs.map encF)] (.list ((sortF xs).map encF)):=fun E s mt vs G hex r=>by
  refine e2a3 r.cons_inv fun v vs' zr28 r1 r2=>?_
  subst zr28
  obtain rfl:=r2.nil_inv
  refine e2a4 r1.list_inv fun l ws zr29 hn hl rs=>?_
  subst zr29
  have hlen : ws.length = xs.length:=by simpa using rs.length
  have hu : A.in1.in1.units < cLine:=by
    have:=hA.un
    rw [units_in1,units_in1]
    lia
  refine Calls.call_function_entry kind_sorted plain_sorted entry_sorted (args_sorted1 _) ?_
  unfold Builtin.«sorted»
  refine wpAny_bind (m:=checkCount "sorted" 1 1 _) (wpAny_pure ?_)
  refine wpAny_bind (collect_list hl.isList ?_ (by rw [sizeLine_eq]; lia))
  refine wpAny_bind (wpAny_newList ?_ (by rw [sizeLine_eq]; lia))
  have hsz : ((s.heap.push (seqObj "list" #[] 0)).update s.heap.objs.size (Obj.mapSeq (· ++ ws.toArray))).objs.size = s.heap.objs.size + 1:=by
    rw [Heap.size_update,size_push']
  have hoL : (((s.heap.push (seqObj "list" #[] 0)).update s.heap.objs.size (Obj.mapSeq (· ++ ws.toArray))).push (seqObj "list" ws.toArray 0)).get? (s.heap.objs.size + 1) = some (seqObj "list" ws.toArray 0):=by
    rw [← hsz]; exact Heap.get?_push_size _ rfl
  have keep : ∀ b o,s.heap.get? b = some o→(((s.heap.push (seqObj "list" #[] 0)).update s.heap.objs.size (Obj.mapSeq (· ++ ws.toArray))).push (seqObj "list" ws.toArray 0)).get? b = some o:=fun b o q=>by
    have hlt : b < s.heap.objs.size:=Heap.lt_size q
    rw [Heap.get?_push_ne _ _ _ (by rw [hsz]; exact Nat.ne_of_lt (Nat.lt_succ_of_lt hlt)),Heap.get?_update_ne _ _ _ _ (Nat.ne_of_lt hlt),Heap.get?_push_ne _ _ _ (Nat.ne_of_lt hlt)]
    exact q
  show wpAny _ _ _ _ _ { s with heap:=((s.heap.push (seqObj "list" #[] 0)).update s.heap.objs.size (Obj.mapSeq (· ++ ws.toArray))).push (seqObj "list" ws.toArray 0) }
  rw [hsz]
  generalize ((s.heap.push (seqObj "list" #[] 0)).update s.heap.objs.size (Obj.mapSeq (· ++ ws.toArray))).push (seqObj "list" ws.toArray 0) = h₂ at hoL keep
  refine wpAny_bind (wpAny_holding (wpAny_call_entry slot_list_sort ⟨_,hoL,rfl⟩ entry_list_sort ?body (args_list_sort _)))
  case body =>
    refine fo_sort (s:={ s with heap:=h₂ }) hu hoL ((fosAt_of rs).ext fun a o e _=>keep a o e) (by lia) hd fun p h' c hp hs hk ho'=>⟨_,rfl,wpAny_pure ⟨_,rfl,?_⟩⟩
    have hk' : ∀ b o,s.heap.get? b = some o→h'.get? b = some o:=fun b o e=>hk b o (Nat.ne_of_lt (Nat.lt_succ_of_lt (Heap.lt_size e))) (keep b o e)
    refine ⟨⟨h',s.toks,rfl,hk'⟩,?_⟩
    refine .mkList ⟨c,ho'⟩ (fun hm=>?_) ?_
    · refine e1a1 (hex _ hm) fun o e=>?_
      exact Nat.lt_irrefl _ (Nat.lt_of_succ_lt (Heap.lt_size e))
    · rw [← hs]
      exact (rs.getD p fun i hi=>by rw [hlen]; exact List.mem_range.mp (hp.mem_iff.mp hi)).ext hk'
end
end Mine
namespace Mine
open PySem PySem.W PyProof.Rows PySem.Calls
noncomputable def FnAt (K : Frag) (f : Addr) (fd : FuncData) : Prop:=K.lookup f = some { cls:=.type "function",data:=.func fd }∧codeIn K fd.code fd.qualname = true
noncomputable def topAt (i : Nat) : Stmt:=PySem.Challenge.pw_ox0192_01.main.body.getD i (.Pass default)
noncomputable def bodyOf : Stmt→List Stmt
  | .FunctionDef _ _ body _ _ _ _ _ _ _=>body
  | .ClassDef _ _ _ body _ _ _ _ _ _ _=>body
  | _=>[]
noncomputable def scopeOf : Stmt→Scope
  | .FunctionDef _ _ _ _ _ _ scope _ _ _=>scope
  | _=>default
noncomputable def argsOf : Stmt→Arguments
  | .FunctionDef _ args _ _ _ _ _ _ _ _=>args
  | _=>default
noncomputable def fdS (st : Stmt) (name qual : Str) (pm cd dV doc : Value) : FuncData :=
  { name,qualname:=qual,params:=argsOf st,body:=.stmts (bodyOf st),scope:=scopeOf st,globals:=mainGlobals,closure:=[],defaults:=dV,kwdefaults:=.none,doc,pyModule:=pm,code:=cd,builtins:=builtinsNs }
abbrev Step:=Int × Int × Int
noncomputable def encT (x : Step) : PyData:=.tuple [.int x.1,.int x.2.1,.int x.2.2]
noncomputable def encS (st : List Step) : PyData:=.list (st.map encT)
theorem encT_inj : ∀ x y,encT x = encT y→x = y:=by
  rintro ⟨a,b,c⟩ ⟨a',b',c'⟩ h
  simp only [encT] at h
  injection h with h
  injection h with h1 h
  injection h with h2 h
  injection h with h3
  injection h1 with h1; injection h2 with h2; injection h3 with h3
  subst h1 h2 h3; rfl
theorem int_inj : ∀ x y : Int,PyData.int x = PyData.int y→x = y:=fun _ _ h=>by injection h
noncomputable def fdBehind : FuncData:=fdS (topAt 16) "_law_behind" "_law_behind" (.str "law_ox0192_01" 595) (.ref 286) .none .none
noncomputable def behind1 (st : List Step) (held : Int) (bh : List Int) : List Int:=(st.filter fun x=>x.1 == held || decide (x.1 ∈ bh)).map (·.2.1)
noncomputable def behindN (st : List Step) (held : Int) : Nat→List Int
  | 0=>[]
  | n + 1=>behind1 st held (behindN st held n)
section
variable {prog : Program} {w : World} {K : Frag} {mg mb : Str→Option Value} {A : Around}
set_option maxHeartbeats 1000000 in
theorem cc_behind (H : FnAt K 287 fdBehind) (N : Nm mg mb) (hA : Aok 1 A) (st : List Step) (held : Int) (hst : st.length ≤ 100) :
    CC prog w K mg mb A (.ref 287) [encS st,.int held] (.list ((behindN st held 5).map .int)):=by
  refine cc_def (fd:=fdBehind) (body:=bodyOf (topAt 16)) (["steps","held"] : List Str) hA (o:={ cls:=.type "function",data:=.func fdBehind }) H.1 rfl H.2 rfl rfl (by decide)
    (fun vs h=>by match vs,h with | [a,b],_=>kernel_rfl) (by decide +kernel) ?_
  intro s mt s₁ hex F
  have hA1:=hA.deeper (callEnvC fdBehind s.heap.objs.size 287)
  generalize A.deeper (callEnvC fdBehind s.heap.objs.size 287) = A' at hA1 ⊢
  refine ex_assign (d:=.list []) F (.inr (by kernel_rfl)) (pe_list _ .nil) (fun s₂ F₂ _=>?_) rfl
  refine ex_forP ["behind"] (fun i=>[("behind",.list ((behindN st held i).map .int)),("steps",encS st),("held",.int held)]) F₂
    (src_rangeI (n:=5) hA1.hd (by kernel_rfl) N.range.1 N.range.2 (pe_int 5 _ _) (by decide)) (.inl (by kernel_rfl)) ⟨rfl,rfl,rfl,trivial⟩ ?_ ?_
  · intro i d mt' s' _ _ F'
    refine ex_assign (d:=.list ((behindN st held (i + 1)).map .int)) F' (.inr (by kernel_rfl)) ?_ (fun s₄ F₄ k₄=>wpAny_execs_nil ⟨F₄.to _ ⟨rfl,rfl,rfl,trivial⟩,k₄⟩) (by kernel_rfl)
    have e : (behindN st held (i + 1)).map PyData.int = (st.filter fun x=>x.1 == held || decide (x.1 ∈ behindN st held i)).map fun x=>.int x.2.1:=by
      show (List.map _ (List.filter _ st)).map PyData.int = _
      rw [List.map_map]; rfl
    rw [e]
    refine pe_compT [(("held" : Str),s.heap.objs.size + 1),("behind",s.heap.objs.size + 2)] st encT encT_inj (fun x=>[("times",.int x.2.2),("late",.int x.2.1),("early",.int x.1)]) [("held",.int held),("behind",.list ((behindN st held i).map .int))] _ _
      (src_list hA1.hd (pe_name _ rfl)) (by kernel_rfl) (by decide +kernel) rfl (by decide +kernel) ⟨⟨rfl,.inl (by kernel_rfl),.inl (by kernel_rfl),(by kernel_rfl),by decide⟩,⟨rfl,.inl (by kernel_rfl),.inl (by kernel_rfl),(by kernel_rfl),by decide⟩,trivial⟩ ?_ ?_ ?_ (by rw [sizeLine_eq]; lia)
    · intro C x _
      exact tgt_tuple (xs:=[("early",_),("late",_),("times",_)]) hA1.hd rfl (by intro y hy; simp at hy; rcases hy with rfl | rfl | rfl <;> kernel_rfl) rfl
    · intro C x _
      exact pt_or _ (pt_eq _ (pe_name _ rfl) (pe_name _ rfl)) fun _=>pt_in _ hA1 (pe_name _ rfl) (pe_name _ rfl)
    · intro C x _ _
      exact pe_name _ rfl
  · intro s' F' _
    refine ex_ret F' (pe_name _ rfl) fun v s'' k r=>⟨v,rfl,Keeps.trans' F'.keep k,r.hide fun b hb=>.inl (List.mem_append.mpr (.inr hb))⟩
end
end Mine
namespace Mine
open PySem PySem.W PyProof.Rows PySem.Calls
noncomputable def fdNumbers : FuncData:=fdS (topAt 13) "_law_numbers" "_law_numbers" (.str "law_ox0192_01" 595) (.ref 269) .none .none
noncomputable def startL : List Int:=[160,332,141,69,831,22]
noncomputable def numAtK (ns : List Int) (k : Int) : Int:=(startL.getD k.toNat 0 + (pickL (pickL ns none (some 63) none) (some k) none (some 6)).sum).fmod 900
noncomputable def numbersF (ns : List Int) : List Int:=((List.range 6).map fun i : Nat=>(i : Int)).map (numAtK ns)
theorem start_get : ∀ k ∈ ((List.range 6).map fun i : Nat=>(i : Int)),0 ≤ k∧k < 6∧startL[k.toNat]? = some (startL.getD k.toNat 0):=by decide
section
variable {prog : Program} {w : World} {K : Frag} {mg mb : Str→Option Value} {A : Around}
set_option maxHeartbeats 1000000 in
theorem cc_numbers (H : FnAt K 270 fdNumbers) (N : Nm mg mb) (hA : Aok 1 A) (ns : List Int) (hns : ns.length ≤ 100) :
    CC prog w K mg mb A (.ref 270) [.list (ns.map .int)] (.list ((numbersF ns).map .int)):=by
  refine cc_def (fd:=fdNumbers) (body:=bodyOf (topAt 13)) (["script"] : List Str) hA (o:={ cls:=.type "function",data:=.func fdNumbers }) H.1 rfl H.2 rfl rfl (by decide)
    (fun vs h=>by match vs,h with | [a],_=>kernel_rfl) (by decide +kernel) ?_
  intro s mt s₁ hex F
  have hA1:=hA.deeper (callEnvC fdNumbers s.heap.objs.size 270)
  generalize A.deeper (callEnvC fdNumbers s.heap.objs.size 270) = A' at hA1 ⊢
  refine ex_assign (d:=.list (startL.map .int)) F (.inr (by kernel_rfl)) (pe_list _ (.cons (pe_int _ _ _) (fun _=>rfl) (.cons (pe_int _ _ _) (fun _=>rfl) (.cons (pe_int _ _ _) (fun _=>rfl) (.cons (pe_int _ _ _) (fun _=>rfl) (.cons (pe_int _ _ _) (fun _=>rfl) (.cons (pe_int _ _ _) (fun _=>rfl) .nil)))))) ) (fun s₂ F₂ _=>?_) rfl
  refine ex_ret (d:=.list ((numbersF ns).map .int)) F₂ ?_ fun v s'' k r=>⟨v,rfl,Keeps.trans' F₂.keep k,r.hide fun b hb=>.inl (List.mem_append.mpr (.inr hb))⟩
  have e : (numbersF ns).map PyData.int = ((((List.range 6).map fun i : Nat=>(i : Int)).filter fun _=>true).map fun k=>.int (numAtK ns k)):=by
    unfold numbersF
    rw [List.map_map,List.filter_eq_self.mpr (fun _ _=>rfl)]; rfl
  rw [e]
  refine pe_compT [(("start" : Str),s.heap.objs.size + 2),("script",s.heap.objs.size + 1)] _ .int int_inj (fun k=>[("k",.int k)]) [("start",.list (startL.map .int)),("script",.list (ns.map .int))] _ _
    (src_rangeI (n:=6) hA1.hd (by kernel_rfl) N.range.1 N.range.2 (pe_int 6 _ _) (by decide)) (by kernel_rfl) (by decide +kernel) rfl (by decide +kernel) ⟨⟨rfl,.inl (by kernel_rfl),.inl (by kernel_rfl),(by kernel_rfl),by decide⟩,⟨rfl,.inl (by kernel_rfl),.inl (by kernel_rfl),(by kernel_rfl),by decide⟩,trivial⟩ ?_ ?_ ?_ (by decide)
  · intro C x _
    exact tgt_name (by kernel_rfl) rfl
  · intro C x _
    exact rfl
  · intro C k hk _
    refine e0a3 (start_get k hk) fun h0 h6 hd=>?_
    refine pe_mod _ (by decide) (pe_add _ (pe_subL _ (pe_name _ rfl) (pe_name _ rfl) h0 (by lia) (by rw [List.getElem?_map,hd]; rfl)) ?_) (pe_int 900 _ _)
    refine pe_call_b _ _ (by kernel_rfl) N.sum.1 N.sum.2 (cc_sum hA1) (.cons ?_ (fun _=>rfl) .nil)
    rw [← pickL_map,← pickL_map]
    exact pe_slice (pe_slice (pe_name _ rfl) rfl ⟨63,rfl,pe_int 63 _ _⟩ rfl (by decide) (by rw [sizeLine_eq,List.length_map]; lia)) ⟨k,rfl,pe_name _ rfl⟩ rfl ⟨6,rfl,pe_int 6 _ _⟩ (by decide)
      (Nat.le_trans (pickL_len _ _ _ _) (by rw [sizeLine_eq,List.length_map]; lia))
end
end Mine
namespace Mine
open PySem PySem.W PyProof.Rows PySem.Calls
noncomputable def fdSteps : FuncData:=fdS (topAt 14) "_law_steps" "_law_steps" (.str "law_ox0192_01" 595) (.ref 276) .none .none
noncomputable def stepOf (x : Int) : List Step :=
  if (x.fdiv 25).fmod 6 == 5 then [(x.fmod 5,(x.fdiv 5).fmod 5,1 + (x.fdiv 150).fmod 2)]
  else if x.fmod 5 != (x.fdiv 5).fmod 5 then
    [(if (x.fdiv 5).fmod 5 < x.fmod 5 then (x.fdiv 5).fmod 5 else x.fmod 5,if (x.fdiv 5).fmod 5 > x.fmod 5 then (x.fdiv 5).fmod 5 else x.fmod 5,1 + (x.fdiv 150).fmod 2)]
  else []
noncomputable def stepsF (ns : List Int) : List Step:=ns.flatMap stepOf
theorem stepOf_len (x : Int) : (stepOf x).length ≤ 1:=by
  unfold stepOf
  split
  · exact Nat.le_refl _
  · split
    · exact Nat.le_refl _
    · exact Nat.zero_le _
theorem stepsF_len (ns : List Int) : (stepsF ns).length ≤ ns.length:=by
  induction ns with
  | nil=>exact Nat.le_refl _
  | cons x ns ih =>
    show (stepOf x ++ stepsF ns).length ≤ _
    rw [List.length_append,List.length_cons]
    have:=stepOf_len x
    lia
theorem stepsF_take (ns : List Int) (i : Nat) (x : Int) (h : ns[i]? = some x) : stepsF (ns.take (i + 1)) = stepsF (ns.take i) ++ stepOf x:=by
  rw [List.take_add_one,h]
  simp [stepsF]
section
variable {prog : Program} {w : World} {K : Frag} {mg mb : Str→Option Value} {A : Around}
set_option maxHeartbeats 2000000 in
theorem cc_steps (H : FnAt K 277 fdSteps) (N : Nm mg mb) (hA : Aok 1 A) (ns : List Int) (hns : ns.length ≤ 100) (hr : ∀ x ∈ ns,0 ≤ x∧x < 900) :
    CC prog w K mg mb A (.ref 277) [.list (ns.map .int)] (encS (stepsF ns)):=by
  refine cc_def (fd:=fdSteps) (body:=bodyOf (topAt 14)) (["numbers"] : List Str) hA (o:={ cls:=.type "function",data:=.func fdSteps }) H.1 rfl H.2 rfl rfl (by decide)
    (fun vs h=>by match vs,h with | [a],_=>kernel_rfl) (by decide +kernel) ?_
  intro s mt s₁ hex F
  have hA1:=hA.deeper (callEnvC fdSteps s.heap.objs.size 277)
  revert hA1
  refine genA (A.deeper (callEnvC fdSteps s.heap.objs.size 277)) fun A' hA1=>?_
  revert F
  refine genE (callEnvC fdSteps s.heap.objs.size 277) fun env hE F=>?_
  have kd : ∀ x,env.kindOf x = fdSteps.scope.names.lookup x:=fun x=>by rw [← hE]; rfl
  have hi : interactive env = false:=by rw [← hE]; kernel_rfl
  refine ex_newlist F (.inl (by rw [kd]; kernel_rfl)) [("numbers",.list (ns.map .int))] ⟨rfl,trivial⟩ rfl fun s₂ a an aL F₂ hv hl _=>?_
  have a0 : s.heap.get? a = none:=none_old F.keep an
  have hmm : ∀ b ∈ mt,b ∈ a :: (mtOf env ++ mt):=fun b hb=>.tail _ (List.mem_append.mpr (.inr hb))
  refine hideG fun zD zhD=>?_
  revert hmm
  revert F₂
  refine genE (a :: (mtOf env ++ mt)) fun mE hmE F₂ hmm=>?_
  refine zhD ?_
  clear zhD zD
  have haE : a ∈ mE:=hmE ▸ .head _
  have hm : ∀ b,Loc env b→b ∈ mE:=fun b hb=>(F₂.locs b hb).1
  have aex : ∃ o,s₂.heap.get? a = some o:=let ⟨n,e⟩:=hl; ⟨_,e⟩
  refine ex_for F₂ (src_list hA1.hd (pe_name _ rfl)) (fun wr i s'=>Fm K mg mb s env (wr ++ mE) [("numbers",.list (ns.map .int))] s'∧Ow env "steps" a (wr ++ mE) ((stepsF (ns.take i)).map encT) s') ?_ ?_ ?_
  · intro wr s' k hw hx
    exact ⟨F₂.start k hw hx,Ow.start ⟨hv,[],hl,.nil⟩ k hw⟩
  · intro wr i d v s₁' s₂' hd hw zi199 k hex' hrv
    refine e0a2 zi199 fun J1 J2=>?_
    rw [List.getElem?_map] at hd
    refine hideG fun zD zhD=>?_
    refine e1a2 (Option.map_eq_some_iff.mp hd) fun x hx zr201=>?_
    subst zr201
    refine e0a2 (hr x (List.mem_of_getElem? hx)) fun x0 x9=>?_
    refine zhD ?_
    clear zhD zD
    have haw : a ∉ wr:=fun q=>by obtain ⟨o,e⟩:=aex; rw [hw a q] at e; cases e
    have F2:=J1.iter k (F₂.notLoc hw) (F₂.new0 hw) hex'
    have O2:=J2.kb k (F₂.notLoc hw) haw
    refine wpAny_assign_Name (F2.store (.inl (by rw [kd]; kernel_rfl)) hrv fun s₃ F3 k3=>?_)
    have O3:=O2.kl k3 F2 (by decide) aL
    have fm : ∀ {k : Int},k.natAbs < 1073741824→Builtin.divisionGoesByPylong x k = false:=fun h=>PyProof.noPylong_small h
    refine ex_pair (d1:=.int (x.fmod 5)) (d2:=.int ((x.fdiv 5).fmod 5)) hA1 F3 (by rw [kd]; kernel_rfl) (by rw [kd]; kernel_rfl) (by decide)
      (.cons (pe_mod _ (by decide) (pe_name _ rfl) (pe_int 5 _ _)) (fun _=>rfl) (.cons (pe_mod _ (by decide) (pe_fdiv _ (by decide) (fm (by decide)) (pe_name _ rfl) (pe_int 5 _ _)) (pe_int 5 _ _)) (fun _=>rfl) .nil)) (fun s₄ F4 k4=>?_) (by rw [← hE]; kernel_rfl)
    have O4:=O3.kl k4 F3 (by decide) aL
    have t3 : PE prog w K mg mb A' env ([("one",PyData.int (x.fmod 5)),("two",.int ((x.fdiv 5).fmod 5)),("x",.int x),("numbers",.list (ns.map .int))]) (.Name "x" default) (.int x):=pe_name _ rfl
    have hlen : ((stepsF (ns.take i)).map encT).length < sizeLine:=by
      rw [List.length_map,sizeLine_eq]
      have:=stepsF_len (ns.take i)
      have : (ns.take i).length ≤ ns.length:=by rw [List.length_take]; exact Nat.min_le_right _ _
      lia
    have kb24 : Kb mE s₂' s₄:=Kb.trans (k3.kb' hm) (k4.kb' hm)
    have fin : ∀ {s₅ : Shared} {l : List Step},Fm K mg mb s env (wr ++ mE) (("one",PyData.int (x.fmod 5)) :: ("two",.int ((x.fdiv 5).fmod 5)) :: ("x",.int x) :: [("numbers",.list (ns.map .int))]) s₅→Ow env "steps" a (wr ++ mE) ((stepsF (ns.take i)).map encT ++ l.map encT) s₅→Kb mE s₂' s₅→stepOf x = l →
        (Fm K mg mb s env (wr ++ mE) [("numbers",.list (ns.map .int))] s₅∧Ow env "steps" a (wr ++ mE) ((stepsF (ns.take (i + 1))).map encT) s₅)∧Kb mE s₂' s₅:=by
      intro s₅ l F5 O5 k5 e
      refine ⟨⟨F5.to _ ⟨rfl,trivial⟩,?_⟩,k5⟩
      rw [stepsF_take ns i x hx,e,List.map_append]
      exact O5
    refine ex_if F4 (pt_eq _ (pe_mod _ (by decide) (pe_fdiv _ (by decide) (fm (by decide)) (pe_name _ rfl) (pe_int 25 _ _)) (pe_int 6 _ _)) (pe_int 5 _ _)) (fun hb s₅ F5 k5=>?_) (fun hb s₅ F5 k5=>?_)
    · refine ex_appendO F5 (O4.keeps k5) (List.mem_append.mpr (.inr haE)) aL a0 (pe_tuple _ _ (.cons (pe_name _ rfl) (fun _=>rfl) (.cons (pe_name _ rfl) (fun _=>rfl) (.cons (pe_add _ (pe_int 1 _ _) (pe_mod _ (by decide) (pe_fdiv _ (by decide) (fm (by decide)) (pe_name _ rfl) (pe_int 150 _ _)) (pe_int 2 _ _))) (fun _=>rfl) .nil))) (by show 3 ≤ sizeLine; decide)) hlen (fun s₆ F6 O6 _ k6=>wpAny_execs_nil (wpAny_execs_nil ?_)) (fun _=>rfl) (by decide) rfl hi
      refine fin (l:=[(x.fmod 5,(x.fdiv 5).fmod 5,1 + (x.fdiv 150).fmod 2)]) F6 O6 (Kb.trans kb24 (Kb.trans (Kb.of k5) (k6.mono fun b hb=>by rcases List.mem_cons.mp hb with rfl | hb; exact haE; cases hb))) ?_
      unfold stepOf; rw [if_pos hb]
    · refine ex_if F5 (pt_ne _ (pe_name _ rfl) (pe_name _ rfl)) (fun hb' s₆ F6 k6=>?_) (fun hb' s₆ F6 k6=>wpAny_execs_nil (wpAny_execs_nil (wpAny_execs_nil ?_)))
      · have hA2 : Aok 0 A':=hA1
        refine ex_appendO F6 ((O4.keeps k5).keeps k6) (List.mem_append.mpr (.inr haE)) aL a0 (pe_tuple _ _ (.cons (pe_call_b _ _ (by rw [kd]; kernel_rfl) N.min.1 N.min.2 (cc_min2 hA2) (.cons (pe_name _ rfl) (fun _=>rfl) (.cons (pe_name _ rfl) (fun _=>rfl) .nil))) (fun _=>rfl) (.cons (pe_call_b _ _ (by rw [kd]; kernel_rfl) N.max.1 N.max.2 (cc_max2 hA2) (.cons (pe_name _ rfl) (fun _=>rfl) (.cons (pe_name _ rfl) (fun _=>rfl) .nil))) (fun _=>rfl) (.cons (pe_add _ (pe_int 1 _ _) (pe_mod _ (by decide) (pe_fdiv _ (by decide) (fm (by decide)) (pe_name _ rfl) (pe_int 150 _ _)) (pe_int 2 _ _))) (fun _=>rfl) .nil))) (by show 3 ≤ sizeLine; decide)) hlen (fun s₇ F7 O7 _ k7=>wpAny_execs_nil (wpAny_execs_nil (wpAny_execs_nil ?_))) (fun _=>rfl) (by decide) rfl hi
        refine fin (l:=[(if (x.fdiv 5).fmod 5 < x.fmod 5 then (x.fdiv 5).fmod 5 else x.fmod 5,if (x.fdiv 5).fmod 5 > x.fmod 5 then (x.fdiv 5).fmod 5 else x.fmod 5,1 + (x.fdiv 150).fmod 2)]) F7 O7 (Kb.trans kb24 (Kb.trans (Kb.of (Keeps.trans' k5 k6)) (k7.mono fun b hb=>by rcases List.mem_cons.mp hb with rfl | hb; exact haE; cases hb))) ?_
        unfold stepOf; rw [if_neg (by rw [hb]; decide),if_pos hb']
      · refine fin (l:=[]) F6 (by simpa using (O4.keeps k5).keeps k6) (Kb.trans kb24 (Kb.of (Keeps.trans' k5 k6))) ?_
        unfold stepOf; rw [if_neg (by rw [hb]; decide),if_neg (by rw [hb']; decide)]
  · intro wr s₁' s₂' hw zi200 k
    refine e0a2 zi200 fun J1 J2=>?_
    have haw : a ∉ wr:=fun q=>by obtain ⟨o,e⟩:=aex; rw [hw a q] at e; cases e
    have O2:=J2.fin k (F₂.notLoc hw) haw
    have F2:=J1.fin k hm (fun b hb q=>not_mt F₂.mex (hw b hb) q) (F₂.new0 hw)
    refine ex_retO O2 ⟨_,rfl,F2.keep,?_⟩
    have e : (ns.take (List.map PyData.int ns).length) = ns:=by rw [List.length_map,List.take_length]
    rw [e] at O2
    exact O2.rp (not_mt hex a0) hmm
end
end Mine
namespace Mine
open PySem PySem.W PyProof.Rows PySem.Calls
noncomputable def fdRow : FuncData:=fdS (topAt 15) "_law_row" "_law_row" (.str "law_ox0192_01" 595) (.ref 281) .none .none
noncomputable def R5 : List Int:=(List.range 5).map fun i : Nat=>(i : Int)
noncomputable def stAt (st : List Step) (k : Int) : Step:=st.getD k.toNat (0,0,0)
noncomputable def lates (st : List Step) : List Int:=st.map (·.2.1)
noncomputable def rowInit (st : List Step) : List Int:=R5.filter fun n=>!decide (n ∈ lates st)
noncomputable def needsF (st : List Step) (n : Int) : List Int:=((List.range st.length).map fun i : Nat=>(i : Int)).filter fun k=>(stAt st k).2.1 == n
noncomputable def aheadF (st : List Step) (row : List Int) (n : Int) : List (Int × Int):=((needsF st n).filter fun k=>decide ((stAt st k).1 ∈ row)).map fun k=>((row.idxOf (stAt st k).1 : Nat),k)
noncomputable def isNew (st : List Step) (row : List Int) (n : Int) : Bool:=!decide (n ∈ row) && (((aheadF st row n).length : Int) == ((needsF st n).length : Int))
noncomputable def foundF (st : List Step) (row : List Int) : List Int→List Fo:=fun ns=>(ns.filter (isNew st row)).map fun n=>(maxP (aheadF st row n),n)
noncomputable def rowStep (st : List Step) (row : List Int) : List Int:=row ++ (sortF (foundF st row R5)).map (·.2)
noncomputable def rowN (st : List Step) : Nat→List Int
  | 0=>rowInit st
  | k + 1=>rowStep st (rowN st k)
theorem R5_nodup : R5.Nodup:=by decide
theorem foundF_names (st : List Step) (row : List Int) (ns : List Int) : (foundF st row ns).map (·.2) = ns.filter (isNew st row):=by
  unfold foundF; rw [List.map_map]; exact List.map_id' _
theorem foundF_nodup (st : List Step) (row : List Int) : ((foundF st row R5).map (·.2)).Nodup:=by
  rw [foundF_names]; exact R5_nodup.filter _
theorem foundF_len (st : List Step) (row : List Int) (ns : List Int) : (foundF st row ns).length ≤ ns.length:=by
  unfold foundF; rw [List.length_map]; exact List.length_filter_le _ _
theorem foundF_take (st : List Step) (row : List Int) (ns : List Int) (i : Nat) (n : Int) (h : ns[i]? = some n) : foundF st row (ns.take (i + 1)) = foundF st row (ns.take i) ++ (if isNew st row n then [(maxP (aheadF st row n),n)] else []):=by
  rw [List.take_add_one,h]
  unfold foundF
  rw [List.filter_append,List.map_append]
  congr 1
  by_cases q : isNew st row n = true
  · simp [q]
  · simp [q]
theorem mem_needsF {st : List Step} {n : Int} {x : Step} (hx : x ∈ st) (hn : x.2.1 = n) : needsF st n ≠ []:=by
  intro e
  obtain ⟨i,hi,rfl⟩:=List.getElem_of_mem hx
  have : (i : Int) ∈ needsF st n:=by
    unfold needsF
    rw [List.mem_filter]
    refine ⟨List.mem_map.mpr ⟨i,List.mem_range.mpr hi,rfl⟩,?_⟩
    simp [stAt,hi,hn]
  rw [e] at this
  cases this
theorem rowInit_sub (st : List Step) : ∀ k,∀ n ∈ rowInit st,n ∈ rowN st k
  | 0,_,h=>h
  | k + 1,n,h=>List.mem_append.mpr (.inl (rowInit_sub st k n h))
theorem ahead_ne {st : List Step} {k : Nat} {n : Int} (hn : n ∈ R5) (h : isNew st (rowN st k) n = true) : aheadF st (rowN st k) n ≠ []:=by
  unfold isNew at h
  simp only [Bool.and_eq_true,Bool.not_eq_true',decide_eq_false_iff_not,beq_iff_eq,Int.natCast_inj] at h
  intro e
  rw [e] at h
  have h0 : needsF st n = []:=List.length_eq_zero_iff.mp h.2.symm
  refine h.1 (rowInit_sub st k n ?_)
  unfold rowInit
  rw [List.mem_filter]
  refine ⟨hn,?_⟩
  simp only [Bool.not_eq_true',decide_eq_false_iff_not]
  intro hm
  refine e1a2 (List.mem_map.mp hm) fun x hx e=>?_
  exact mem_needsF hx e h0
theorem rowN_len (st : List Step) : ∀ k,(rowN st k).length ≤ 5 + 5 * k
  | 0=>by
    have : (rowN st 0).length ≤ 5:=Nat.le_trans (List.length_filter_le _ _) (by decide)
    lia
  | k + 1=>by
    show (rowN st k ++ _).length ≤ _
    rw [List.length_append,List.length_map,(sortF_perm _).length_eq]
    have:=rowN_len st k
    have:=foundF_len st (rowN st k) R5
    have : R5.length = 5:=rfl
    lia
theorem encP_inj : ∀ x y,encP x = encP y→x = y:=by
  rintro ⟨a,b⟩ ⟨a',b'⟩ h
  simp only [encP] at h
  injection h with h
  injection h with h1 h
  injection h with h2
  injection h1 with h1; injection h2 with h2
  subst h1 h2; rfl
theorem encF_inj : ∀ x y,encF x = encF y→x = y:=by
  rintro ⟨a,b⟩ ⟨a',b'⟩ h
  simp only [encF] at h
  injection h with h
  injection h with h1 h
  injection h with h2
  have:=encP_inj _ _ h1
  injection h2 with h2
  subst this h2; rfl
theorem cc_lenM {prog : Program} {w : World} {K : Frag} {mg mb : Str→Option Value} {A : Around} {α : Type} (xs : List α) (enc : α→PyData) (hz : (xs.length : Int) < 2 ^ 63) : CC prog w K mg mb A (.builtin "len") [.list (xs.map enc)] (.int (xs.length : Nat)):=by
  have:=cc_len (prog:=prog) (w:=w) (K:=K) (mg:=mg) (mb:=mb) (A:=A) (ds:=xs.map enc) (by rw [List.length_map]; exact hz)
  rwa [List.length_map] at this
theorem needsF_mem {st : List Step} {n k : Int} (h : k ∈ needsF st n) : 0 ≤ k∧k.toNat < st.length:=by
  obtain ⟨i,hi,rfl⟩:=List.mem_map.mp (List.mem_filter.mp h).1
  exact ⟨Int.natCast_nonneg _,by simpa using List.mem_range.mp hi⟩
theorem needsF_len (st : List Step) (n : Int) : (needsF st n).length ≤ st.length:=by
  unfold needsF
  refine Nat.le_trans (List.length_filter_le _ _) ?_
  rw [List.length_map,List.length_range]
  exact Nat.le_refl _
theorem aheadF_len (st : List Step) (row : List Int) (n : Int) : (aheadF st row n).length ≤ st.length:=by
  unfold aheadF
  rw [List.length_map]
  exact Nat.le_trans (List.length_filter_le _ _) (needsF_len st n)
theorem st_get {st : List Step} {k : Int} (h : k.toNat < st.length) : (st.map encT)[k.toNat]? = some (encT (stAt st k)):=by
  rw [List.getElem?_map,List.getElem?_eq_getElem h]
  simp [stAt,h]
section
variable {prog : Program} {w : World} {K : Frag} {mg mb : Str→Option Value} {A : Around}
set_option maxHeartbeats 4000000 in
theorem cc_row (H : FnAt K 282 fdRow) (N : Nm mg mb) (hA : Aok 2 A) (st : List Step) (hst : st.length ≤ 100) :
    CC prog w K mg mb A (.ref 282) [encS st] (.list ((rowN st 4).map .int)):=by
  refine cc_def (fd:=fdRow) (body:=bodyOf (topAt 15)) (["steps"] : List Str) hA (o:={ cls:=.type "function",data:=.func fdRow }) H.1 rfl H.2 rfl rfl (by decide)
    (fun vs h=>by match vs,h with | [a],_=>kernel_rfl) (by decide +kernel) ?_
  intro s mt s₁ hex F
  have hA1:=hA.deeper (callEnvC fdRow s.heap.objs.size 282)
  revert hA1
  refine genA (A.deeper (callEnvC fdRow s.heap.objs.size 282)) fun A' hA1=>?_
  have hA0 : Aok 0 A':=hA1.le (by decide)
  refine ex_assign (d:=.list ((rowInit st).map .int)) F (.inr (by kernel_rfl)) ?_ (fun s₂ F₂ _=>?_) (by kernel_rfl)
  · have e : (rowInit st).map PyData.int = (R5.filter fun n=>!decide (n ∈ lates st)).map fun n=>.int n:=rfl
    rw [e]
    refine pe_compT [(("steps" : Str),s.heap.objs.size + 1)] R5 .int int_inj (fun n=>[("name",.int n)]) [("steps",encS st)] _ _
      (src_rangeI (n:=5) hA1.hd (by kernel_rfl) N.range.1 N.range.2 (pe_int 5 _ _) (by decide)) (by kernel_rfl) (by decide +kernel) rfl (by decide +kernel) ⟨⟨rfl,.inl (by kernel_rfl),.inl (by kernel_rfl),(by kernel_rfl),by decide⟩,trivial⟩ ?_ ?_ ?_ (by decide)
    · intro C n _
      exact tgt_name (by kernel_rfl) rfl
    · intro C n _
      refine pt_notIn _ hA0 (pe_name _ rfl) ?_
      have e2 : (lates st).map PyData.int = (st.filter fun _=>true).map fun x=>.int x.2.1:=by
        unfold lates; rw [List.map_map,List.filter_eq_self.mpr (fun _ _=>rfl)]; rfl
      rw [e2]
      refine pe_compT [] st encT encT_inj (fun x=>[("times",.int x.2.2),("late",.int x.2.1),("early",.int x.1)]) [] _ _ (src_list hA1.hd (pe_name _ rfl)) (by kernel_rfl) (by decide +kernel) rfl (by decide +kernel) trivial ?_ ?_ ?_ (by rw [sizeLine_eq]; lia)
      · intro C x _
        exact tgt_tuple (xs:=[("early",_),("late",_),("times",_)]) hA1.hd rfl (by intro y hy; simp at hy; rcases hy with rfl | rfl | rfl <;> kernel_rfl) rfl
      · intro C x _; exact rfl
      · intro C x _ _; exact pe_name _ rfl
    · intro C n _ _
      exact pe_name _ rfl
  refine ex_forP ["found","name","needs","ahead","row"] (fun i=>[("row",.list ((rowN st i).map .int)),("steps",encS st)]) F₂
    (src_rangeI (n:=4) hA1.hd (by kernel_rfl) N.range.1 N.range.2 (pe_int 4 _ _) (by decide)) (.inl (by kernel_rfl)) ⟨rfl,rfl,trivial⟩ ?_ ?_
  · intro i d mt' s' hi4 _ F'
    have hi4 : i < 4:=by obtain ⟨h,_⟩:=List.getElem?_eq_some_iff.mp hi4; simpa using h
    refine ex_newlist F' (.inl (by kernel_rfl)) [("row",.list ((rowN st i).map .int)),("steps",encS st)] ⟨rfl,rfl,trivial⟩ rfl fun s₃ a an aL F₃ hv hl k₃=>?_
    have a0 : s.heap.get? a = none:=none_old F'.keep an
    refine ex_forX ["name"] ["needs","ahead"] [a] (fun d=>[("name",d)]) (fun _=>[("row",.list ((rowN st i).map .int)),("steps",encS st)]) (fun j m u=>Ow (callEnvC fdRow s.heap.objs.size 282) "found" a m ((foundF st (rowN st i) (R5.take j)).map encF) u) F₃ ?_ ?_ ?_
      (src_rangeI (n:=5) hA1.hd (by kernel_rfl) N.range.1 N.range.2 (pe_int 5 _ _) (by decide)) (fun d _=>tgtF_name (.inr (by kernel_rfl))) ⟨rfl,rfl,trivial⟩ ?_ ?_ ?_
    · exact ⟨hv,[],hl,.nil⟩
    · intro b hb; rcases List.mem_cons.mp hb with rfl | hb; exact .head _; cases hb
    · intro b hb; rcases List.mem_cons.mp hb with rfl | hb; exact aL; cases hb
    · intro j m₁ m₂ u₁ u₂ o m
      exact m.ow o (by decide) (.head _)
    · intro j d m u hd hmm G O
      rw [List.getElem?_map] at hd
      refine e1a2 (Option.map_eq_some_iff.mp hd) fun n hn zr125=>?_
      subst zr125
      have hn5 : n ∈ R5:=List.mem_of_getElem? hn
      have hrl:=rowN_len st i
      refine ex_assign_compT [(("steps" : Str),s.heap.objs.size + 1),("name",s.heap.objs.size + 2)] ((List.range st.length).map fun i : Nat=>(i : Int)) .int int_inj (fun k=>[("k",.int k)]) [("steps",encS st),("name",.int n)] (fun k=>(stAt st k).2.1 == n) .int G (by kernel_rfl)
        (src_rangeI (n:=st.length) hA1.hd (by kernel_rfl) N.range.1 N.range.2 (pe_call_b _ _ (by kernel_rfl) N.len.1 N.len.2 (cc_lenM st encT (by lia)) (.cons (pe_name _ rfl) (fun _=>rfl) .nil)) (by lia)) (by kernel_rfl) (by decide +kernel) rfl (by decide +kernel)
        ⟨⟨rfl,.inl (by kernel_rfl),.inl (by kernel_rfl),(by kernel_rfl),by decide⟩,⟨rfl,.inl (by kernel_rfl),.inl (by kernel_rfl),(by kernel_rfl),by decide⟩,trivial⟩ ?_ ?_ ?_ (by rw [sizeLine_eq,List.length_map,List.length_range]; lia) (fun u₁ G₁ k₁=>?_) (by kernel_rfl)
      · intro C k _
        exact tgt_name (by kernel_rfl) rfl
      · intro C k hk
        refine e1a2 (List.mem_map.mp hk) fun q hq zr126=>?_
        subst zr126
        have hq' : ((q : Nat) : Int).toNat < st.length:=by simpa using List.mem_range.mp hq
        exact pt_eq _ (pe_subT _ (pe_subL _ (pe_name _ rfl) (pe_name _ rfl) (Int.natCast_nonneg _) (by lia) (st_get hq')) (pe_int 1 _ _) (by decide) (by decide) rfl) (pe_name _ rfl)
      · intro C k _ _
        exact pe_name _ rfl
      have O₁:=O.kl k₁ G (by decide) aL
      have ea : (aheadF st (rowN st i) n).map encP = ((needsF st n).filter fun k=>decide ((stAt st k).1 ∈ rowN st i)).map fun k=>encP (((rowN st i).idxOf (stAt st k).1 : Nat),k):=by
        unfold aheadF; rw [List.map_map]; rfl
      refine ex_assign_compT [(("steps" : Str),s.heap.objs.size + 1),("row",s.heap.objs.size + 3)] (needsF st n) .int int_inj (fun k=>[("k",.int k)]) [("row",.list ((rowN st i).map .int)),("steps",encS st)] (fun k=>decide ((stAt st k).1 ∈ rowN st i)) (fun k=>encP (((rowN st i).idxOf (stAt st k).1 : Nat),k)) G₁ (by kernel_rfl)
        (src_list hA1.hd (pe_name _ rfl)) (by kernel_rfl) (by decide +kernel) rfl (by decide +kernel)
        ⟨⟨rfl,.inl (by kernel_rfl),.inl (by kernel_rfl),(by kernel_rfl),by decide⟩,⟨rfl,.inl (by kernel_rfl),.inl (by kernel_rfl),(by kernel_rfl),by decide⟩,trivial⟩ ?_ ?_ ?_ (by rw [sizeLine_eq]; have:=needsF_len st n; lia) (fun u₂ G₂ k₂=>?_) (by kernel_rfl)
      · intro C k _
        exact tgt_name (by kernel_rfl) rfl
      · intro C k hk
        refine e0a2 (needsF_mem hk) fun q0 q1=>?_
        exact pt_in _ hA0 (pe_subT _ (pe_subL _ (pe_name _ rfl) (pe_name _ rfl) q0 (by lia) (st_get q1)) (pe_int 0 _ _) (by decide) (by decide) rfl) (pe_name _ rfl)
      · intro C k hk hp
        refine e0a2 (needsF_mem hk) fun q0 q1=>?_
        refine pe_tuple _ _ (.cons ?_ (fun _=>rfl) (.cons (pe_name _ rfl) (fun _=>rfl) .nil)) (by show 2 ≤ sizeLine; decide)
        exact pe_methL _ _ PySem.F.slot_list_index (by kernel_rfl) (pe_name _ rfl) (cc_indexI hA0 (by simpa using hp) (by lia)) (.cons (pe_subT _ (pe_subL _ (pe_name _ rfl) (pe_name _ rfl) q0 (by lia) (st_get q1)) (pe_int 0 _ _) (by decide) (by decide) rfl) (fun _=>rfl) .nil)
      rw [← ea] at G₂
      have O₂:=O₁.kl k₂ G₁ (by decide) aL
      have k02 : Kl (callEnvC fdRow s.heap.objs.size 282) ["needs","ahead"] u u₂:=Kl.trans (k₁.mono (by simp)) (k₂.mono (by simp))
      refine ex_if (b:=isNew st (rowN st i) n) G₂ (pt_and _ (pt_notIn _ hA0 (pe_name _ rfl) (pe_name _ rfl)) fun _=>pt_eq _ (pe_call_b _ _ (by kernel_rfl) N.len.1 N.len.2 (cc_lenM (aheadF st (rowN st i) n) encP (by have:=aheadF_len st (rowN st i) n; lia)) (.cons (pe_name _ rfl) (fun _=>rfl) .nil))
        (pe_call_b _ _ (by kernel_rfl) N.len.1 N.len.2 (cc_lenM (needsF st n) .int (by have:=needsF_len st n; lia)) (.cons (pe_name _ rfl) (fun _=>rfl) .nil))) (fun hb u₃ G₃ k₃=>?_) (fun hb u₃ G₃ k₃=>wpAny_execs_nil (wpAny_execs_nil ⟨G₃.to _ ⟨rfl,rfl,trivial⟩,?_,?_⟩))
      · have hz : ((foundF st (rowN st i) (R5.take j)).map encF).length < sizeLine:=by
          rw [List.length_map,sizeLine_eq]
          have:=foundF_len st (rowN st i) (R5.take j)
          have : (R5.take j).length ≤ 5:=by rw [List.length_take]; exact Nat.min_le_right _ _
          lia
        refine ex_appendO (d:=encF (maxP (aheadF st (rowN st i) n),n)) G₃ (O₂.keeps k₃) (hmm a (.head _)) aL a0 (pe_tuple _ _ (.cons (pe_call_b _ _ (by kernel_rfl) N.max.1 N.max.2 (cc_maxP hA1 (ahead_ne hn5 hb)) (.cons (pe_name _ rfl) (fun _=>rfl) .nil)) (fun _=>rfl) (.cons (pe_name _ rfl) (fun _=>rfl) .nil)) (by show 2 ≤ sizeLine; decide)) hz
          (fun u₄ G₄ O₄ _ k₄=>wpAny_execs_nil (wpAny_execs_nil ⟨G₄.to _ ⟨rfl,rfl,trivial⟩,?_,?_⟩)) (fun _=>rfl) (by decide) rfl (by kernel_rfl)
        · rw [foundF_take st _ R5 j n hn,hb]
          simpa using O₄
        · exact Kx.trans (Kx.ofKl k02) (Kx.trans (Kx.of k₃) (Kx.ofKb k₄ fun b hb=>by rcases List.mem_cons.mp hb with rfl | hb; exact aL; cases hb))
      · rw [foundF_take st _ R5 j n hn,hb]
        simpa using O₂.keeps k₃
      · exact Kx.trans (Kx.ofKl k02) (Kx.of k₃)
    · intro u G O k
      have e5 : R5.take ((((List.range 5).map fun i : Nat=>(i : Int)).map PyData.int).length) = R5:=rfl
      rw [e5] at O
      have G1:=G.unhide O aL (not_mt F'.mex an) [("row",.list ((rowN st i).map .int)),("steps",encS st)] ⟨rfl,rfl,trivial⟩
      refine ex_assign (d:=.list ((rowN st (i + 1)).map .int)) G1 (.inr (by kernel_rfl)) ?_ (fun u₂ G₂ k₂=>wpAny_execs_nil ⟨G₂.to _ ⟨rfl,rfl,trivial⟩,?_⟩) (by kernel_rfl)
      · have e : (rowN st (i + 1)).map PyData.int = (rowN st i).map .int ++ ((sortF (foundF st (rowN st i) R5)).filter fun _=>true).map fun x=>.int x.2:=by
          show (rowN st i ++ _).map PyData.int = _
          rw [List.map_append,List.map_map,List.filter_eq_self.mpr (fun _ _=>rfl)]; rfl
        rw [e]
        have hfl:=foundF_len st (rowN st i) R5
        have h5 : R5.length = 5:=rfl
        have hrl:=rowN_len st i
        have hsl : (sortF (foundF st (rowN st i) R5)).length ≤ 5:=by rw [(sortF_perm _).length_eq]; lia
        refine pe_addL _ (pe_name _ rfl) ?_ (by rw [sizeLine_eq,List.length_map,List.length_map,List.filter_eq_self.mpr (fun _ _=>rfl)]; lia)
        refine pe_compT [] (sortF (foundF st (rowN st i) R5)) encF encF_inj (fun x=>[("name",.int x.2),("place",encP x.1)]) [] _ _ (src_list hA1.hd (pe_call_b _ _ (by kernel_rfl) N.sorted.1 N.sorted.2 (cc_sorted hA1 (by lia) (foundF_nodup st _)) (.cons (pe_name _ rfl) (fun _=>rfl) .nil))) (by kernel_rfl) (by decide +kernel) rfl (by decide +kernel) trivial ?_ ?_ ?_ (by rw [sizeLine_eq]; lia)
        · intro C x _
          exact tgt_tuple (xs:=[("place",_),("name",_)]) hA1.hd rfl (by intro y hy; simp at hy; rcases hy with rfl | rfl <;> kernel_rfl) rfl
        · intro C x _; exact rfl
        · intro C x _ _; exact pe_name _ rfl
      · have z : Kx (callEnvC fdRow s.heap.objs.size 282) ["found","name","needs","ahead","row"] [a] s' u₂:=Kx.trans (Kx.ofKl (k₃.mono (by simp))) (Kx.trans (k.mono (by simp) fun _ h=>h) (Kx.ofKl (k₂.mono (by simp))))
        exact z.kl fun b hb=>by rcases List.mem_cons.mp hb with rfl | hb; exact an; cases hb
  · intro s' F' _
    refine ex_ret F' (pe_name _ rfl) fun v s'' k r=>⟨v,rfl,Keeps.trans' F'.keep k,r.hide fun b hb=>.inl (List.mem_append.mpr (.inr hb))⟩
end
end Mine
namespace Mine
open PySem PySem.W PyProof.Rows PySem.Calls
noncomputable def fdDue : FuncData:=fdS (topAt 18) "_law_due" "_law_due" (.str "law_ox0192_01" 595) (.ref 296) .none .none
noncomputable def encG (g : Int) : PyData:=.list [.int g]
noncomputable def encM (x : Int × Int × Int) : PyData:=.tuple [.int x.1,.int x.2.1,encG x.2.2]
noncomputable def dueF (f g : List Int) : List (Int × Int × Int) :=
  (((List.range (f ++ g).length).map fun i : Nat=>(i : Int)).filter fun k=>(((f ++ g).idxOf ((f ++ g).getD k.toNat 0) : Nat) : Int) == k && ((f.count ((f ++ g).getD k.toNat 0) : Nat) : Int) != ((g.count ((f ++ g).getD k.toNat 0) : Nat) : Int)).map
    fun k=>(((f.count ((f ++ g).getD k.toNat 0) : Nat) : Int),((g.count ((f ++ g).getD k.toNat 0) : Nat) : Int),(f ++ g).getD k.toNat 0)
theorem eqv_G (a b : Int) : PyData.eqv (encG a) (encG b) = (a == b):=by simp [encG,PyData.eqv,PyData.eqvAll]
theorem canLay_G (g : Int) : (encG g).canLay0 = true:=rfl
theorem canLayAll_G : ∀ l : List Int,PyData.canLayAll0 (l.map encG) = true
  | []=>rfl
  | g :: l=>by
    have:=canLayAll_G l
    simp [PyData.canLayAll0,this,canLay_G]
theorem depth_G (g : Int) : (encG g).depth ≤ 20:=by simp [encG,PyData.depth,PyData.depthAll]
section
variable {prog : Program} {w : World} {K : Frag} {mg mb : Str→Option Value} {A : Around}
theorem cc_countG (l : List Int) (g : Int) (hA : Aok 0 A) : CC prog w K mg mb A (.builtin "list.count") [.list (l.map encG),encG g] (.int ((l.count g : Nat) : Int)):=by
  have z:=cc_count (prog:=prog) (w:=w) (K:=K) (mg:=mg) (mb:=mb) (A:=A) (xs:=l.map encG) (d:=encG g) hA (canLayAll_G l) (canLay_G g) (depth_G g)
  rw [List.countP_map] at z
  have e : ((fun y=>PyData.eqv y (encG g)) ∘ encG) = (· == g):=by funext a; exact eqv_G a g
  rw [e] at z
  exact z
theorem cc_indexG (l : List Int) (g : Int) (hA : Aok 0 A) (hg : g ∈ l) (hz : l.length < 1000000) : CC prog w K mg mb A (.builtin "list.index") [.list (l.map encG),encG g] (.int ((l.idxOf g : Nat) : Int)):=by
  have hlt : l.idxOf g < l.length:=List.idxOf_lt_length_of_mem hg
  refine cc_index hA (canLayAll_G l) (canLay_G g) (depth_G g) (by simpa using hlt) (by lia) ?_ ?_
  · rw [List.getElem_map,eqv_G]; simp
  · intro m hm hlt'
    have hm' : m < l.length:=by simpa using hm
    rw [List.getElem_map,eqv_G]
    have:=List.not_of_lt_findIdx (p:=(· == g)) (xs:=l) (i:=m) hlt'
    simpa using this
end
section
variable {prog : Program} {w : World} {K : Frag} {mg mb : Str→Option Value} {A : Around}
set_option maxHeartbeats 4000000 in
theorem cc_due (H : FnAt K 297 fdDue) (N : Nm mg mb) (hA : Aok 2 A) (f g : List Int) (hf : f.length ≤ 100) (hg : g.length ≤ 100) :
    CC prog w K mg mb A (.ref 297) [.list (f.map encG),.list (g.map encG)] (.list ((dueF f g).map encM)):=by
  refine cc_def (fd:=fdDue) (body:=bodyOf (topAt 18)) (["first","second"] : List Str) hA (o:={ cls:=.type "function",data:=.func fdDue }) H.1 rfl H.2 rfl rfl (by decide)
    (fun vs h=>by match vs,h with | [a,b],_=>kernel_rfl) (by decide +kernel) ?_
  intro s mt s₁ hex F
  have hA1:=hA.deeper (callEnvC fdDue s.heap.objs.size 297)
  generalize A.deeper (callEnvC fdDue s.heap.objs.size 297) = A' at hA1 ⊢
  have hA0 : Aok 0 A':=hA1.le (by decide)
  have hb : (f ++ g).length ≤ 200:=by rw [List.length_append]; lia
  refine ex_assign (d:=.list ((f ++ g).map encG)) F (.inr (by kernel_rfl)) (by rw [List.map_append]; exact pe_addL _ (pe_name _ rfl) (pe_name _ rfl) (by rw [sizeLine_eq,List.length_map,List.length_map]; lia)) (fun s₂ F₂ _=>?_) (by kernel_rfl)
  refine ex_ret (d:=.list ((dueF f g).map encM)) F₂ ?_ fun v s'' k r=>⟨v,rfl,Keeps.trans' F₂.keep k,r.hide fun b hb=>.inl (List.mem_append.mpr (.inr hb))⟩
  have e : (dueF f g).map encM = (((List.range (f ++ g).length).map fun i : Nat=>(i : Int)).filter fun k=>(((f ++ g).idxOf ((f ++ g).getD k.toNat 0) : Nat) : Int) == k && ((f.count ((f ++ g).getD k.toNat 0) : Nat) : Int) != ((g.count ((f ++ g).getD k.toNat 0) : Nat) : Int)).map
    fun k=>encM (((f.count ((f ++ g).getD k.toNat 0) : Nat) : Int),((g.count ((f ++ g).getD k.toNat 0) : Nat) : Int),(f ++ g).getD k.toNat 0):=by
    unfold dueF; rw [List.map_map]; rfl
  rw [e]
  have at_ : ∀ {C : Addr} {scope : Scope} {cl : List (Str × Addr)} {ρ : List (Str × PyData)} {q : Nat} {pos p1 p2 : Pos},q < (f ++ g).length→ρ.lookup ("both" : Str) = some (.list ((f ++ g).map encG))→ρ.lookup ("k" : Str) = some (.int (q : Nat)) →
      PE prog w K mg mb A' (compEnvC scope cl C (callEnvC fdDue s.heap.objs.size 297)) ρ (.Subscript (.Name "both" p1) (.Name "k" p2) pos) (encG ((f ++ g).getD ((q : Nat) : Int).toNat 0)):=by
    intro C scope cl ρ q pos p1 p2 hq h1 h2
    refine pe_subL _ (pe_name _ h1) (pe_name _ h2) (Int.natCast_nonneg _) (by lia) ?_
    rw [List.getElem?_map,Int.toNat_natCast,List.getD_eq_getElem?_getD,List.getElem?_eq_getElem hq]
    rfl
  refine pe_compT [(("second" : Str),s.heap.objs.size + 2),("first",s.heap.objs.size + 1),("both",s.heap.objs.size + 3)] ((List.range (f ++ g).length).map fun i : Nat=>(i : Int)) .int int_inj (fun k=>[("k",.int k)]) [("second",.list (g.map encG)),("both",.list ((f ++ g).map encG)),("first",.list (f.map encG))] _ _
    (src_rangeI (n:=(f ++ g).length) hA1.hd (by kernel_rfl) N.range.1 N.range.2 (pe_call_b _ _ (by kernel_rfl) N.len.1 N.len.2 (cc_lenM (f ++ g) encG (by lia)) (.cons (pe_name _ rfl) (fun _=>rfl) .nil)) (by lia)) (by kernel_rfl) (by decide +kernel) rfl (by decide +kernel)
    ⟨⟨rfl,.inl (by kernel_rfl),.inl (by kernel_rfl),(by kernel_rfl),by decide⟩,⟨rfl,.inl (by kernel_rfl),.inl (by kernel_rfl),(by kernel_rfl),by decide⟩,⟨rfl,.inl (by kernel_rfl),.inl (by kernel_rfl),(by kernel_rfl),by decide⟩,trivial⟩ ?_ ?_ ?_ (by rw [sizeLine_eq,List.length_map,List.length_range]; lia)
  · intro C k _
    exact tgt_name (by kernel_rfl) rfl
  · intro C k hk
    refine e1a2 (List.mem_map.mp hk) fun q hq zr286=>?_
    subst zr286
    have hq':=List.mem_range.mp hq
    have hm : (f ++ g).getD ((q : Nat) : Int).toNat 0 ∈ f ++ g:=by
      rw [Int.toNat_natCast,List.getD_eq_getElem?_getD,List.getElem?_eq_getElem hq']
      exact List.getElem_mem hq'
    exact pt_and _ (pt_eq _ (pe_methL _ _ PySem.F.slot_list_index (by kernel_rfl) (pe_name _ rfl) (cc_indexG (f ++ g) _ hA0 hm (by lia)) (.cons (at_ hq' rfl rfl) (fun _=>rfl) .nil)) (pe_name _ rfl)) fun _ =>
      pt_ne _ (pe_methL _ _ PySem.F.slot_list_count (by kernel_rfl) (pe_name _ rfl) (cc_countG f _ hA0) (.cons (at_ hq' rfl rfl) (fun _=>rfl) .nil)) (pe_methL _ _ PySem.F.slot_list_count (by kernel_rfl) (pe_name _ rfl) (cc_countG g _ hA0) (.cons (at_ hq' rfl rfl) (fun _=>rfl) .nil))
  · intro C k hk _
    refine e1a2 (List.mem_map.mp hk) fun q hq zr287=>?_
    subst zr287
    have hq':=List.mem_range.mp hq
    exact pe_tuple _ _ (.cons (pe_methL _ _ PySem.F.slot_list_count (by kernel_rfl) (pe_name _ rfl) (cc_countG f _ hA0) (.cons (at_ hq' rfl rfl) (fun _=>rfl) .nil)) (fun _=>rfl) (.cons (pe_methL _ _ PySem.F.slot_list_count (by kernel_rfl) (pe_name _ rfl) (cc_countG g _ hA0) (.cons (at_ hq' rfl rfl) (fun _=>rfl) .nil)) (fun _=>rfl) (.cons (at_ hq' rfl rfl) (fun _=>rfl) .nil))) (by show 3 ≤ sizeLine; decide)
end
end Mine
namespace Mine
open PySem PySem.W PyProof.Rows PySem.Calls
noncomputable def Hm (nul : Addr) (l M : List Int) (x : Int) (p : Nat) : List PyData:=(l.take p).map (mk nul (M ++ [x])) ++ (l.drop p).map (mk nul M)
theorem Hm_len (nul : Addr) (l M : List Int) (x : Int) (p : Nat) : (Hm nul l M x p).length = l.length:=by
  unfold Hm; rw [List.length_append,List.length_map,List.length_map,← List.length_append,List.take_append_drop]
theorem mk_sub {nul : Addr} {M N : List Int} {y : Int} (h : y ∈ M ↔ y ∈ N) : mk nul M y = mk nul N y:=by
  unfold mk
  by_cases q : y ∈ M
  · rw [if_pos q,if_pos (h.mp q)]
  · rw [if_neg q,if_neg (fun z=>q (h.mpr z))]
theorem Hm_get {nul : Addr} {l M : List Int} {x y : Int} {p : Nat} (hp : l[p]? = some y) : (Hm nul l M x p)[p]? = some (mk nul M y):=by
  obtain ⟨hlt,e⟩:=List.getElem?_eq_some_iff.mp hp
  unfold Hm
  rw [List.getElem?_append_right (by simp [Nat.min_le_left])]
  simp [hlt,Nat.min_eq_left (Nat.le_of_lt hlt),e]
theorem Hm_succ {nul : Addr} {l M : List Int} {x y : Int} {p : Nat} (hp : l[p]? = some y) : Hm nul l M x (p + 1) = (Hm nul l M x p).set p (mk nul (M ++ [x]) y):=by
  refine e1a1 (List.getElem?_eq_some_iff.mp hp) fun hlt e=>?_
  unfold Hm
  rw [List.set_append_right _ _ (by simp [Nat.min_le_left]),List.take_add_one,hp]
  have hd : l.drop p = y :: l.drop (p + 1):=by rw [← e]; exact List.drop_eq_getElem_cons hlt
  rw [hd]
  simp [Nat.min_eq_left (Nat.le_of_lt hlt)]
theorem Hm_yes {nul : Addr} {l M : List Int} {x : Int} {p : Nat} (hp : l[p]? = some x) : (Hm nul l M x p).set p (thing nul) = Hm nul l M x (p + 1):=by
  rw [Hm_succ hp]; simp [mk]
theorem Hm_no {nul : Addr} {l M : List Int} {x y : Int} {p : Nat} (hp : l[p]? = some y) (hy : y ≠ x) : Hm nul l M x (p + 1) = Hm nul l M x p:=by
  rw [Hm_succ hp]
  have e : mk nul (M ++ [x]) y = mk nul M y:=mk_sub (by simp [hy])
  rw [e]
  have z:=Hm_get (nul:=nul) (M:=M) (x:=x) hp
  obtain ⟨hlt,e2⟩:=List.getElem?_eq_some_iff.mp z
  rw [← e2,List.set_getElem_self]
theorem Hm_start {nul : Addr} {l M : List Int} {x : Int} {p : Nat} (h : ∀ y ∈ l.take p,y ∈ M) : Hm nul l M x p = l.map (mk nul M):=by
  unfold Hm
  have : (l.take p).map (mk nul (M ++ [x])) = (l.take p).map (mk nul M):=List.map_congr_left fun y hy=>mk_sub (by simp [h y hy])
  rw [this,← List.map_append,List.take_append_drop]
theorem Hm_all {nul : Addr} {l M : List Int} {x : Int} : Hm nul l M x l.length = l.map (mk nul (M ++ [x])):=by
  unfold Hm; simp
theorem mk_nil (nul : Addr) (l : List Int) : l.map (mk nul []) = l.map one:=List.map_congr_left fun y _=>by simp [mk]
theorem map_mk_mem {nul : Addr} {l M : List Int} {x : Int} (h : x ∈ M) : l.map (mk nul (M ++ [x])) = l.map (mk nul M) :=
  List.map_congr_left fun y _=>mk_sub (by simp; rintro rfl; exact h)
noncomputable def dueN (f g : List Int) (n : Nat) : List (Int × Int × Int) :=
  (((List.range n).map fun i : Nat=>(i : Int)).filter fun k=>(((f ++ g).idxOf ((f ++ g).getD k.toNat 0) : Nat) : Int) == k && ((f.count ((f ++ g).getD k.toNat 0) : Nat) : Int) != ((g.count ((f ++ g).getD k.toNat 0) : Nat) : Int)).map
    fun k=>(((f.count ((f ++ g).getD k.toNat 0) : Nat) : Int),((g.count ((f ++ g).getD k.toNat 0) : Nat) : Int),(f ++ g).getD k.toNat 0)
theorem dueN_all (f g : List Int) : dueN f g (f ++ g).length = dueF f g:=rfl
theorem idxOf_iff {l : List Int} {i : Nat} {x : Int} (h : l[i]? = some x) : l.idxOf x = i ↔ x ∉ l.take i:=by
  refine e1a1 (List.getElem?_eq_some_iff.mp h) fun hlt e=>?_
  constructor
  · intro q hm
    obtain ⟨j,hj,ej⟩:=List.getElem_of_mem hm
    rw [List.getElem_take] at ej
    have hj' : j < i:=by rw [List.length_take] at hj; lia
    have:=List.not_of_lt_findIdx (p:=(· == x)) (xs:=l) (i:=j) (by show j < l.idxOf x; lia)
    simp [ej] at this
  · intro hn
    have hle : l.idxOf x ≤ i:=by
      refine Nat.not_lt.mp fun q=>?_
      have:=List.not_of_lt_findIdx (p:=(· == x)) (xs:=l) (i:=i) q
      simp [e] at this
    refine Nat.le_antisymm hle (Nat.not_lt.mp fun q=>hn ?_)
    have hlt2 : l.idxOf x < l.length:=by lia
    have e2 : l[l.idxOf x] = x:=List.getElem_idxOf hlt2
    rw [List.mem_iff_getElem]
    exact ⟨l.idxOf x,by rw [List.length_take]; lia,by rw [List.getElem_take]; exact e2⟩
theorem dueN_succ {f g : List Int} {n : Nat} {x : Int} (h : (f ++ g)[n]? = some x) :
    dueN f g (n + 1) = dueN f g n ++ (if x ∉ (f ++ g).take n∧f.count x ≠ g.count x then [(((f.count x : Nat) : Int),((g.count x : Nat) : Int),x)] else []):=by
  have hx : (f ++ g).getD n 0 = x:=by rw [List.getD_eq_getElem?_getD,h]; rfl
  unfold dueN
  rw [List.range_succ,List.map_append,List.filter_append,List.map_append]
  congr 1
  simp only [List.map_cons,List.map_nil,List.filter_cons,List.filter_nil,Int.toNat_natCast,hx]
  by_cases q : (f ++ g).idxOf x = n
  · have hn:=(idxOf_iff h).mp q
    by_cases c : f.count x = g.count x
    · simp [q,c]
    · have : ¬ ((f.count x : Nat) : Int) = ((g.count x : Nat) : Int):=fun z=>c (Int.ofNat.inj z)
      simp [q,hn,c,this,h]
  · have hn : x ∈ (f ++ g).take n:=Classical.byContradiction fun z=>q ((idxOf_iff h).mpr z)
    have q' : ¬ ((((f ++ g).idxOf x : Nat) : Int) = (n : Nat)):=fun z=>q (Int.ofNat.inj z)
    simp [q',hn]
theorem count_take_succ {l : List Int} {p : Nat} {x y : Int} (h : l[p]? = some y) : (l.take (p + 1)).count x = (l.take p).count x + (if y = x then 1 else 0):=by
  rw [List.take_add_one,h]
  by_cases q : y = x
  · subst q; simp
  · simp [q]
end Mine
namespace Mine
open PySem PySem.W PyProof.Rows PySem.Calls
theorem Ow.kbm {env : Env} {x : Str} {a : Addr} {mt ws : List Addr} {ds : List PyData} {s s' : Shared} (o : Ow env x a mt ds s) (k : Kb ws s s') (hw : ∀ b ∈ ws,b ∈ mt) (hL : ∀ b ∈ ws,¬ Loc env b) (ha : a ∉ ws) : Ow env x a mt ds s' :=
  ⟨o.var.kb k hL,let ⟨vs,h1,h2⟩:=o.lst; ⟨vs,h1.at fun ob e=>k.ext a ob ha e,h2.mono (fun b ob hb e=>k.ext b ob (fun q=>hb (hw b q)) e) fun _ hb=>.inl hb⟩⟩
section
variable {prog : Program} {w : World} {K : Frag} {mg mb : Str→Option Value} {A : Around} {env : Env} {ρ : List (Str × PyData)} {s0 s : Shared} {mt : List Addr} {E : Value→Shared→Prop} {Q : Flow→Shared→Prop}
theorem cd_if {l c : Str} {q1 q2 q3 q4 q5 q6 q7 q8 q9 : Pos} {kk : Nat} {a nul : Addr} {L M : List Int} {x y : Int} {p n : Nat} {rest : List Stmt} {test : Expr}
    (F : Fm K mg mb s0 env mt ρ s) (o : Ow env l a mt (Hm nul L M x p) s) (ha : a ∈ mt) (aL : ¬ Loc env a) (a0 : s0.heap.get? a = none)
    (hj : ρ.lookup ("j" : Str) = some (.int (p : Nat))) (hc : ρ.lookup c = some (.int (n : Nat))) (hcj : ("j" : Str) ≠ c) (hnc : ("NULL" : Str) ≠ c) (hn : ρ.lookup ("NULL" : Str) = some (thing nul)) (hck : env.kindOf c = some .local)
    (hp : L[p]? = some y) (hx : x ∉ M) (hL : L.length ≤ 100)
    (ht : wpAny (model prog w) A (isTrue test env (eval test env)) (fun b s'=>b = (decide (y ∉ M) && y == x)∧Keeps s s') E s)
    (h : ∀ s',Fm K mg mb s0 env mt ((c,.int ((n + (if y = x then 1 else 0) : Nat) : Int)) :: ρ) s'→Ow env l a mt (Hm nul L M x (p + 1)) s'→Kx env [c] [a] s s' →
      wpAny (model prog w) A (execs rest env) Q E s') (hlc : l ≠ c)
    (hl : (l == ("__debug__" : Str)) = false:=by decide) :
    wpAny (model prog w) A (execs (.If test [.AugAssign (.Name c q1) .Add (.Constant (.int 1) kk q2) q3,.Assign [.Subscript (.Name l q4) (.Name "j" q5) q6] (.Name "NULL" q7) q8] [] q9 :: rest) env) Q E s:=by
  have hplt : p < L.length:=(List.getElem?_eq_some_iff.mp hp).1
  refine ex_ifR F ht (fun hb s₁ F₁ k₁=>?_) (fun hb s₁ F₁ k₁=>?_)
  · have hyx : y = x:=by
      simp only [Bool.and_eq_true,beq_iff_eq] at hb; exact hb.2
    subst hyx
    refine ex_augI F₁ (.inl hck) hc (pe_int 1 _ _) fun s₂ F₂ k₂=>?_
    have e1 : ((n : Nat) : Int) + 1 = ((n + (if y = y then 1 else 0) : Nat) : Int):=by rw [if_pos rfl]; push_cast; rfl
    rw [e1] at F₂
    have o₂:=(o.keeps k₁).kl k₂ F₁ (by simpa using hlc) aL
    have lk : ∀ z,z ≠ c→∀ d,ρ.lookup z = some d→((c,PyData.int ((n + (if y = y then 1 else 0) : Nat) : Int)) :: ρ).lookup z = some d:=fun z hz d e=>by
      rw [List.lookup_cons,show (z == c) = false from by simpa using hz]; exact e
    refine ex_setO F₂ o₂ ha aL a0 (pe_name _ (lk _ hnc _ hn)) (lk _ hcj _ hj) (by rw [Hm_len]; exact hplt) (by rw [Hm_len]; omega) (fun s₃ F₃ o₃ hv k₃=>wpAny_execs_nil (h s₃ F₃ ?_ ?_)) rfl hl
    · rw [Hm_yes hp] at o₃; exact o₃
    · refine Kx.trans (Kx.of k₁) (Kx.trans (Kx.ofKl k₂) (Kx.ofKb k₃ ?_))
      intro b hb; rcases List.mem_cons.mp hb with rfl | hb; exact aL; cases hb
  · have hyx : y ≠ x:=by
      rintro rfl
      simp [hx] at hb
    have e1 : ((n + (if y = x then 1 else 0) : Nat) : Int) = (n : Nat):=by rw [if_neg hyx]; rfl
    refine wpAny_execs_nil (h s₁ (F₁.weak fun z d e=>?_) ?_ (Kx.of k₁))
    · rw [e1] at e
      rcases lookup_put e with ⟨rfl,rfl⟩ | ⟨_,e⟩
      · exact hc
      · exact e
    · rw [Hm_no hp hyx]; exact o.keeps k₁
set_option maxHeartbeats 1000000 in
theorem cd_range {l nm c : Str} {q1 q2 q3 q4 q5 q6 q7 q8 q9 r1 r2 r3 r4 r5 r6 r7 r8 r9 r10 r11 : Pos} {kk : Nat} {a nul : Addr} {L M : List Int} {x : Int} {i : Nat} {rest : List Stmt} {O : List Addr→Shared→Prop} {ms : List Addr}
    (hA : Aok 0 A) (N : Nm mg mb) (F : Fm K mg mb s0 env mt ((c,.int 0) :: ρ) s) (o : Ow env l a mt (L.map (mk nul M)) s) (hO : O mt s) (hms : ∀ b ∈ ms,b ∈ mt) (hmL : ∀ b ∈ ms,¬ Loc env b) (ha : a ∈ ms) (a0 : s0.heap.get? a = none)
    (hOm : ∀ mt₁ mt₂ s₁ s₂,O mt₁ s₁→Mv env ["j"] ms mt₁ mt₂ s₁ s₂→O mt₂ s₂)
    (hOk : ∀ mt₁ s₁ s₂,(∀ b ∈ ms,b ∈ mt₁)→(∀ b,Loc env b→b ∈ mt₁)→O mt₁ s₁→Kx env [c] [a] s₁ s₂→O mt₁ s₂)
    (hi : ρ.lookup ("i" : Str) = some (.int (i : Nat))) (hnm : ρ.lookup nm = some (.int (L.length : Nat))) (he : ρ.lookup ("elem" : Str) = some (one x)) (hn : ρ.lookup ("NULL" : Str) = some (thing nul)) (hρj : ρ.lookup ("j" : Str) = none)
    (hcj : ("j" : Str) ≠ c) (hic : ("i" : Str) ≠ c) (hec : ("elem" : Str) ≠ c) (hnc : ("NULL" : Str) ≠ c) (hnmc : nm ≠ c) (hlc : l ≠ c) (hlj : l ≠ ("j" : Str))
    (hS : Sub ((c,.int 0) :: ρ) ((c,.int 0) :: ρ)) (hck : env.kindOf c = some .local) (hjk : env.kindOf "j" = some .local) (hrk : env.kindOf "range" = some .globalImplicit)
    (hx : x ∉ M) (hM : ∀ y ∈ L.take i,y ∈ M) (hiL : i ≤ L.length) (hL : L.length ≤ 100)
    (hl : (l == ("__debug__" : Str)) = false) (hnd : (nm == ("__debug__" : Str)) = false)
    (h : ∀ s',Fm K mg mb s0 env mt ((c,.int ((L.count x : Nat) : Int)) :: ρ) s'→Ow env l a mt (L.map (mk nul (M ++ [x]))) s'→O mt s'→Kx env ["j",c] ms s s' →
      wpAny (model prog w) A (execs rest env) Q E s') :
    wpAny (model prog w) A (execs (.For (.Name "j" r1) (.Call (.Name "range" r2) [.Name "i" r3,.Name nm r4] [] r5)
      [.If (.Compare (.Subscript (.Name l r6) (.Name "j" r7) r8) [.Eq] [.Name "elem" r9] r10) [.AugAssign (.Name c q1) .Add (.Constant (.int 1) kk q2) q3,.Assign [.Subscript (.Name l q4) (.Name "j" q5) q6] (.Name "NULL" q7) q8] [] q9] [] r11 :: rest) env) Q E s:=by
  have aL : ¬ Loc env a:=hmL a ha
  have lk : ∀ {z : Str} {v d : PyData},z ≠ c→ρ.lookup z = some d→((c,v) :: ρ).lookup z = some d:=fun hz e=>by
    rw [List.lookup_cons,show (_ == c) = false from by simpa using hz]; exact e
  have lk2 : ∀ {z : Str} {u v d : PyData},z ≠ c→ρ.lookup z = some d→((("j" : Str),u) :: (c,v) :: ρ).lookup z = some d:=fun {z u v d} hz e=>by
    have hzj : z ≠ ("j" : Str):=fun q=>by rw [q,hρj] at e; cases e
    rw [List.lookup_cons,show (z == ("j" : Str)) = false from by simpa using hzj]; exact lk hz e
  have hlen : ((List.range (L.length - i)).map fun k=>PyData.int ((i + k : Nat) : Int)).length = L.length - i:=by simp
  have start0 : L.take i = [] ∨ True:=.inr trivial
  have c0 : (L.take i).count x = 0:=List.count_eq_zero.mpr fun hm=>hx (hM x hm)
  refine ex_forX ["j"] [c] ms (fun d=>[("j",d)]) (fun k=>(c,.int (((L.take (i + k)).count x : Nat) : Int)) :: ρ) (fun k m u=>Ow env l a m (Hm nul L M x (i + k)) u∧O m u) F
    ⟨by rw [Nat.add_zero,Hm_start hM]; exact o,hO⟩ hms hmL
    (src_range2 (a:=i) (n:=L.length - i) hA.hd hrk N.range.1 N.range.2 (pe_name _ (lk hic hi)) (by rw [show i + (L.length - i) = L.length by omega]; exact pe_name _ (lk hnmc hnm) hnd) (by omega))
    (fun d _=>tgtF_name (.inl hjk)) (by rw [Nat.add_zero,c0]; exact hS) ?_ ?_ ?_
  · intro k m₁ m₂ s₁ s₂ zi254 m
    refine e0a2 zi254 fun o₁ o₂=>?_
    exact ⟨m.ow o₁ (by simpa using hlj) ha,hOm _ _ _ _ o₂ m⟩
  · intro k d m s' hd hmm F' zi255
    refine e0a2 zi255 fun O1 O2=>?_
    refine e1a1 (List.getElem?_eq_some_iff.mp hd) fun hk e=>?_
    rw [hlen] at hk
    simp at e
    subst e
    have hlt : i + k < L.length:=by omega
    have hy : L[i + k]? = some L[i + k]:=List.getElem?_eq_getElem hlt
    refine cd_if F' O1 (hmm a (hms a ha)) aL a0 (by exact List.lookup_cons_self) (n:=(L.take (i + k)).count x) ?_ hcj hnc (lk2 hnc.symm.symm hn) hck hy hx hL
      (ow_eqM hA F' O1 (by exact List.lookup_cons_self) (by rw [Hm_len]; omega) (Hm_get hy) (pe_name _ (lk2 hec he)) hl) (fun s₁ F₁ o₁ k₁=>wpAny_execs_nil ⟨F₁.weak ?_,⟨o₁,hOk _ _ _ (fun b hb=>hmm b (hms b hb)) (fun b hb=>(F'.locs b hb).1) O2 k₁⟩,k₁.mono (fun _ h=>h) fun b hb=>by rcases List.mem_cons.mp hb with rfl | hb; exact ha; cases hb⟩) hlc hl
    · show List.lookup c ((("j" : Str),_) :: (c,_) :: ρ) = _
      rw [List.lookup_cons,show (c == ("j" : Str)) = false from by simpa using hcj.symm]
      exact List.lookup_cons_self
    · intro z d e
      rw [← Nat.add_assoc,count_take_succ hy] at e
      rcases lookup_put e with ⟨rfl,rfl⟩ | ⟨hz,e⟩
      · exact List.lookup_cons_self
      · rw [List.lookup_cons,show (z == c) = false from by simpa using hz]
        exact lk2 hz e
  · intro s' F' zi256 k'
    refine e0a2 zi256 fun O1 O2=>?_
    rw [hlen,show i + (L.length - i) = L.length by omega] at F' O1
    rw [List.take_length] at F'
    rw [Hm_all] at O1
    exact h s' F' O1 O2 k'
end
end Mine
namespace Mine
open PySem PySem.W PyProof.Rows PySem.Calls
noncomputable def fdCount (doc : Value) : FuncData:=fdS (topAt 5) "_count_diff_all_purpose" "_count_diff_all_purpose" (.str "cpy313.unittest.util" 194) (.ref 144) .none doc
structure NmC (mg : Str→Option Value) (K : Frag) : Prop where
  mis : mg "_Mismatch" = some (.ref 135)
  cls : ∃ o c,K.lookup 135 = some o∧o.cls = .type "type" ∧ o.data = .cls c
structure Cd (env : Env) (a b c nul : Addr) (f g : List Int) (M : List Int) (r : List (Int × Int × Int)) (mt : List Addr) (s : Shared) : Prop where
  os : Ow env "s" a mt (f.map (mk nul M)) s
  ot : Ow env "t" b mt (g.map (mk nul M)) s
  or : Ow env "result" c mt (r.map mis) s
theorem Cd.mv {env : Env} {a b c nul : Addr} {f g M : List Int} {r : List (Int × Int × Int)} {xs : List Str} {ms m₁ m₂ : List Addr} {s₁ s₂ : Shared} (o : Cd env a b c nul f g M r m₁ s₁) (m : Mv env xs ms m₁ m₂ s₁ s₂)
    (h1 : ("s" : Str) ∉ xs) (h2 : ("t" : Str) ∉ xs) (h3 : ("result" : Str) ∉ xs) (ha : a ∈ ms) (hb : b ∈ ms) (hc : c ∈ ms) : Cd env a b c nul f g M r m₂ s₂ :=
  ⟨m.ow o.os h1 ha,m.ow o.ot h2 hb,m.ow o.or h3 hc⟩
theorem dueN_len (f g : List Int) (n : Nat) : (dueN f g n).length ≤ n:=by
  unfold dueN
  rw [List.length_map]
  refine Nat.le_trans (List.length_filter_le _ _) ?_
  rw [List.length_map,List.length_range]; exact Nat.le_refl _
section
variable {prog : Program} {w : World} {K : Frag} {mg mb : Str→Option Value} {A : Around} {env : Env} {ρ : List (Str × PyData)} {s0 s : Shared} {mt : List Addr} {E : Value→Shared→Prop} {Q : Flow→Shared→Prop}
theorem ex_continue {pos : Pos} {rest : List Stmt} (h : Q .cont s) : wpAny (model prog w) A (execs (.Continue pos :: rest) env) Q E s :=
  wpAny_execs_cons (wpAny_Continue h)
theorem Ow.kx {x : Str} {a : Addr} {ds : List PyData} {xs : List Str} {ms : List Addr} {s s' : Shared} (o : Ow env x a mt ds s) (k : Kx env xs ms s s') (hx : x ∉ xs) (ha : a ∉ ms) (aL : ¬ Loc env a) (hl : ∀ b,Loc env b→b ∈ mt) (hm : ∀ b ∈ ms,b ∈ mt) : Ow env x a mt ds s' :=
  ⟨k.var _ _ hx o.var,let ⟨vs,h1,h2⟩:=o.lst; ⟨vs,h1.at fun ob e=>k.ext a ob ha aL e,h2.mono (fun b ob hb e=>k.ext b ob (fun q=>hb (hm b q)) (fun q=>hb (hl b q)) e) fun _ hb=>.inl hb⟩⟩
set_option maxHeartbeats 4000000 in
theorem cd_phase1 (kd : ∀ x,env.kindOf x = (scopeOf (topAt 5)).names.lookup x) (hi : interactive env = false) (N : Nm mg mb) (NC : NmC mg K) (hM : MisNew prog w K) (hA0 : Aok 0 A) (hd : A.depth ≤ 900) (hu : A.units ≤ 2000) (f g : List Int) (hf : f.length ≤ 100) (hg : g.length ≤ 100) {a b c nul : Addr} {rest : List Stmt}
    (F : Fm K mg mb s0 env mt [("NULL",thing nul),("m",.int (f.length : Nat)),("n",.int (g.length : Nat))] s) (O : Cd env a b c nul f g [] [] mt s)
    (ha : a ∈ mt) (hb : b ∈ mt) (hc : c ∈ mt) (aL : ¬ Loc env a) (bL : ¬ Loc env b) (cL : ¬ Loc env c) (a0 : s0.heap.get? a = none) (b0 : s0.heap.get? b = none) (c0 : s0.heap.get? c = none) (hab : a ≠ b) (hac : a ≠ c) (hbc : b ≠ c)
    (h : ∀ s',Fm K mg mb s0 env mt [("NULL",thing nul),("m",.int (f.length : Nat)),("n",.int (g.length : Nat))] s'→Cd env a b c nul f g f (dueN f g f.length) mt s'→wpAny (model prog w) A (execs rest env) Q E s') :
    wpAny (model prog w) A (execs ((bodyOf (topAt 5)).getD 5 (.Pass default) :: rest) env) Q E s:=by
  have hmL : ∀ x ∈ [a,b,c],¬ Loc env x:=by
    intro x hx; simp at hx; rcases hx with rfl | rfl | rfl <;> assumption
  refine ex_forEn (l := "s") (a:=a) (n:=f.length) ["cnt_s","cnt_t","j","other_elem","diff"] [a,b,c] (fun i=>mk nul (f.take i) (f.getD i 0)) (fun _=>[("NULL",thing nul),("m",.int (f.length : Nat)),("n",.int (g.length : Nat))])
    (fun i m u=>Cd env a b c nul f g (f.take i) (dueN f g i) m u) F hA0.hd (by rw [kd]; kernel_rfl) N.enumerate.1 N.enumerate.2 (by simpa [dueN] using O)
    (by intro x hx; simp at hx; rcases hx with rfl | rfl | rfl <;> assumption) hmL (.head _) ?_ (by rw [kd]; kernel_rfl) (by rw [kd]; kernel_rfl) ⟨rfl,rfl,rfl,trivial⟩ ?_ ?_ ?_
  · intro i m u o
    refine ⟨_,o.os,by simp,fun hlt=>?_⟩
    rw [List.getElem?_map,List.getElem?_eq_getElem hlt]
    simp [hlt]
  · intro i m₁ m₂ u₁ u₂ o m
    exact o.mv m (by decide) (by decide) (by decide) (by simp) (by simp) (by simp)
  · intro i m u hlt hmm G o
    have hx : f[i]? = some (f.getD i 0):=by rw [List.getD_eq_getElem?_getD,List.getElem?_eq_getElem hlt]; rfl
    have hxfg : (f ++ g)[i]? = some (f.getD i 0):=by rw [List.getElem?_append_left hlt]; exact hx
    have htk : (f ++ g).take i = f.take i:=List.take_append_of_le_length (Nat.le_of_lt hlt)
    have hts : f.take (i + 1) = f.take i ++ [f.getD i 0]:=by rw [List.take_add_one,hx]; rfl
    generalize f.getD i 0 = x at hx hxfg hts G
    have gl : ∀ y,Loc env y→y ∈ m:=fun y hy=>(G.locs y hy).1
    refine ex_if G (pt_isM _ (pe_name _ rfl) (pe_name _ rfl)) (fun hbx u₁ G₁ k₁=>?_) (fun hbx u₁ G₁ k₁=>?_)
    · have hxm : x ∈ f.take i:=by simpa using hbx
      refine ex_continue ⟨G₁.to _ ⟨rfl,rfl,rfl,trivial⟩,?_,Kx.of k₁⟩
      have e : dueN f g (i + 1) = dueN f g i:=by rw [dueN_succ hxfg,htk,if_neg (fun z=>z.1 hxm),List.append_nil]
      rw [e,hts]
      exact ⟨by rw [map_mk_mem hxm]; exact o.os.keeps k₁,by rw [map_mk_mem hxm]; exact o.ot.keeps k₁,o.or.keeps k₁⟩
    have hxm : x ∉ f.take i:=by simpa using hbx
    have ek : mk nul (f.take i) x = one x:=by unfold mk; rw [if_neg hxm]
    rw [ek] at G₁
    refine wpAny_execs_nil ?_
    refine ex_assign2 G₁ (.inl (by rw [kd]; kernel_rfl)) (.inl (by rw [kd]; kernel_rfl)) (pe_int 0 _ _) fun u₂ G₂ k₂=>?_
    have os₂:=(o.os.keeps k₁).kl k₂ G₁ (by decide) aL
    have ot₂:=(o.ot.keeps k₁).kl k₂ G₁ (by decide) bL
    have or₂:=(o.or.keeps k₁).kl k₂ G₁ (by decide) cL
    have kx₂ : Kx env ["cnt_s","cnt_t","j","other_elem","diff"] [a,b,c] u u₂:=Kx.trans (Kx.of k₁) (Kx.ofKl (k₂.mono (by simp)))
    refine cd_range (c := "cnt_s") (ρ:=[("cnt_t",.int 0),("elem",one x),("i",.int (i : Nat)),("NULL",thing nul),("m",.int (f.length : Nat)),("n",.int (g.length : Nat))]) (ms:=[a,b,c]) (M:=f.take i) (L:=f) (x:=x) (i:=i) (nul:=nul)
      (O:=fun mm uu=>Ow env "t" b mm (g.map (mk nul (f.take i))) uu∧Ow env "result" c mm ((dueN f g i).map mis) uu) hA0 N (G₂.to _ ⟨rfl,rfl,rfl,rfl,rfl,rfl,rfl,trivial⟩) os₂ ⟨ot₂,or₂⟩
      (by intro x hx; simp at hx; rcases hx with rfl | rfl | rfl <;> exact hmm _ (by assumption)) hmL (.head _) a0 ?_ ?_ rfl rfl rfl rfl rfl (by decide) (by decide) (by decide) (by decide) (by decide) (by decide) (by decide)
      ⟨rfl,rfl,rfl,rfl,rfl,rfl,rfl,trivial⟩ (by rw [kd]; kernel_rfl) (by rw [kd]; kernel_rfl) (by rw [kd]; kernel_rfl) hxm (fun _ h=>h) (Nat.le_of_lt hlt) hf (by decide) (by decide) fun u₃ G₃ os₃ ⟨ot₃,or₃⟩ k₃=>?_
    · intro m₁ m₂ s₁ s₂ zi60 mv
      refine e0a2 zi60 fun o₁ o₂=>?_
      exact ⟨mv.ow o₁ (by decide) (by simp),mv.ow o₂ (by decide) (by simp)⟩
    · intro m₁ s₁ s₂ hms hll zi61 k
      refine e0a2 zi61 fun o₁ o₂=>?_
      have hm1 : ∀ z ∈ [a],z ∈ m₁:=fun z hz=>by rcases List.mem_cons.mp hz with rfl | hz; exact hms _ (.head _); cases hz
      exact ⟨o₁.kx k (by decide) (by simp [Ne.symm hab]) bL hll hm1,o₂.kx k (by decide) (by simp [Ne.symm hac]) cL hll hm1⟩
    refine ex_forEn (l := "t") (a:=b) (n:=g.length) ["cnt_t"] [a,b,c] (fun p=>mk nul (f.take i) (g.getD p 0)) (fun p=>[("cnt_t",.int (((g.take p).count x : Nat) : Int)),("cnt_s",.int ((f.count x : Nat) : Int)),("elem",one x),("NULL",thing nul),("m",.int (f.length : Nat)),("n",.int (g.length : Nat))])
      (fun p mm uu=>Ow env "t" b mm (Hm nul g (f.take i) x p) uu∧Ow env "s" a mm (f.map (mk nul (f.take i ++ [x]))) uu∧Ow env "result" c mm ((dueN f g i).map mis) uu) G₃ hA0.hd (by rw [kd]; kernel_rfl) N.enumerate.1 N.enumerate.2
      ⟨by rw [Hm_start (by simp)]; exact ot₃,os₃,or₃⟩
      (by intro x hx; simp at hx; rcases hx with rfl | rfl | rfl <;> exact hmm _ (by assumption)) hmL (by simp) ?_ (by rw [kd]; kernel_rfl) (by rw [kd]; kernel_rfl) ⟨rfl,rfl,rfl,rfl,rfl,rfl,trivial⟩ ?_ ?_ ?_
    · intro p m₁ s₁ zi62
      refine e0a2 zi62 fun o₁ _=>?_
      refine ⟨_,o₁,Hm_len _ _ _ _ _,fun hp=>Hm_get ?_⟩
      rw [List.getD_eq_getElem?_getD,List.getElem?_eq_getElem hp]; rfl
    · intro p m₁ m₂ s₁ s₂ zi63 mv
      refine e0a3 zi63 fun o₁ o₂ o₃=>?_
      exact ⟨mv.ow o₁ (by decide) (by simp),mv.ow o₂ (by decide) (by simp),mv.ow o₃ (by decide) (by simp)⟩
    · intro p m₁ s₁ hp hmm₁ G₄ zi64
      refine e0a3 zi64 fun o₁ o₂ o₃=>?_
      have hy : g[p]? = some (g.getD p 0):=by rw [List.getD_eq_getElem?_getD,List.getElem?_eq_getElem hp]; rfl
      generalize g.getD p 0 = y at hy G₄
      have hall : ∀ z ∈ [b],z ∈ m₁:=fun z hz=>by rcases List.mem_cons.mp hz with rfl | hz; exact hmm₁ _ (hmm _ hb); cases hz
      refine cd_if (c := "cnt_t") (n:=(g.take p).count x) G₄ o₁ (hall _ (.head _)) bL b0 rfl rfl (by decide) (by decide) rfl (by rw [kd]; kernel_rfl) hy hxm hg
        (pt_eqM _ hA0 (pe_name _ rfl) (pe_name _ rfl) (by with_unfolding_all rfl) _ _ _ G₄.sv) (fun s₂ G₅ o₅ k₅=>wpAny_execs_nil ⟨?_,⟨o₅,?_,?_⟩,k₅.mono (by simp) (by simp)⟩) (by decide)
      · rw [count_take_succ hy]
        exact G₅.to _ ⟨rfl,rfl,rfl,rfl,rfl,rfl,trivial⟩
      · exact o₂.kx k₅ (by decide) (by simp [hab]) aL (fun z hz=>(G₄.locs z hz).1) hall
      · exact o₃.kx k₅ (by decide) (by simp [Ne.symm hbc]) cL (fun z hz=>(G₄.locs z hz).1) hall
    · intro u₄ G₄ zi65 k₄
      refine e0a3 zi65 fun ot₄ os₄ or₄=>?_
      rw [List.take_length] at G₄
      rw [Hm_all] at ot₄
      have kx₄ : Kx env ["cnt_s","cnt_t","j","other_elem","diff"] [a,b,c] u u₄ :=
        Kx.trans kx₂ (Kx.trans (k₃.mono (by simp) (by simp)) (k₄.mono (by simp) (by simp)))
      refine ex_if G₄ (pt_ne _ (pe_name _ rfl) (pe_name _ rfl)) (fun hbd u₅ G₅ k₅=>?_) (fun hbd u₅ G₅ k₅=>?_)
      · have hne : f.count x ≠ g.count x:=fun e=>by rw [e] at hbd; simp at hbd
        refine hideG fun zD zhD=>?_
        refine e2a3 NC.cls fun oc cc hcl hct hcd=>?_
        refine zhD ?_
        clear zhD zD
        refine ex_assign (d:=mis (((f.count x : Nat) : Int),((g.count x : Nat) : Int),x)) G₅ (.inl (by rw [kd]; kernel_rfl)) (pe_call_c _ _ (by rw [kd]; kernel_rfl) NC.mis hcl hct hcd (cc_mis hM hA0.hd hd hu (((f.count x : Nat) : Int),((g.count x : Nat) : Int),x))
          (.cons (pe_name _ rfl) (fun _=>rfl) (.cons (pe_name _ rfl) (fun _=>rfl) (.cons (pe_name _ rfl) (fun _=>rfl) .nil)))) (fun u₆ G₆ k₆=>?_) (by kernel_rfl)
        have os₆:=(os₄.keeps k₅).kl k₆ G₅ (by decide) aL
        have ot₆:=(ot₄.keeps k₅).kl k₆ G₅ (by decide) bL
        have or₆:=(or₄.keeps k₅).kl k₆ G₅ (by decide) cL
        have hcl : ∀ z ∈ [c],¬ Loc env z:=fun z hz=>by rcases List.mem_cons.mp hz with rfl | hz; exact cL; cases hz
        have hcm : ∀ z ∈ [c],z ∈ m:=fun z hz=>by rcases List.mem_cons.mp hz with rfl | hz; exact hmm _ hc; cases hz
        refine ex_appendO G₆ or₆ (hmm _ hc) cL c0 (pe_name _ rfl) (by rw [List.length_map,sizeLine_eq]; have:=dueN_len f g i; lia) (fun u₇ G₇ or₇ hv₇ k₇=>wpAny_execs_nil (wpAny_execs_nil ⟨G₇.to _ ⟨rfl,rfl,rfl,trivial⟩,?_,?_⟩)) (fun _=>rfl) (by decide) rfl hi
        · rw [hts,dueN_succ hxfg,htk,if_pos ⟨hxm,hne⟩,]
          refine ⟨os₆.kbm k₇ hcm hcl (by simp [hac]),ot₆.kbm k₇ hcm hcl (by simp [hbc]),?_⟩
          rw [List.map_append]; exact or₇
        · exact Kx.trans kx₄ (Kx.trans (Kx.of k₅) (Kx.trans (Kx.ofKl (k₆.mono (by simp))) ((Kx.ofKb k₇ hcl).mono (fun _ h=>h) (by simp))))
      · have he : f.count x = g.count x:=by
          have : ((f.count x : Nat) : Int) = ((g.count x : Nat) : Int):=by simpa using hbd
          exact Int.ofNat.inj this
        refine wpAny_execs_nil (wpAny_execs_nil ⟨G₅.to _ ⟨rfl,rfl,rfl,trivial⟩,?_,Kx.trans kx₄ (Kx.of k₅)⟩)
        rw [hts,dueN_succ hxfg,htk,if_neg (fun z=>z.2 he),List.append_nil]
        exact ⟨os₄.keeps k₅,ot₄.keeps k₅,or₄.keeps k₅⟩
  · intro s' F' o _
    rw [List.take_length] at o
    exact h s' F' o
end
end Mine
namespace Mine
open PySem PySem.W PyProof.Rows PySem.Calls
section
variable {prog : Program} {w : World} {K : Frag} {mg mb : Str→Option Value} {A : Around} {env : Env} {ρ : List (Str × PyData)} {s0 s : Shared} {mt : List Addr} {E : Value→Shared→Prop} {Q : Flow→Shared→Prop}
theorem ex_doc {x : Str} {k : Nat} {p ep : Pos} {rest : List Stmt} (F : Fm K mg mb s0 env mt ρ s) (hi : interactive env = false) (h : ∀ s',Fm K mg mb s0 env mt ρ s'→wpAny (model prog w) A (execs rest env) Q E s') :
    wpAny (model prog w) A (execs (.Expr (.Constant (.str x) k p) ep :: rest) env) Q E s :=
  wpAny_execs_cons (wpAny_Expr (wpAny_Constant_str (h _ (F.keeps (Keeps.tok _)))) hi rfl)
set_option maxHeartbeats 4000000 in
theorem cd_phase2 (kd : ∀ x,env.kindOf x = (scopeOf (topAt 5)).names.lookup x) (hi : interactive env = false) (N : Nm mg mb) (NC : NmC mg K) (hM : MisNew prog w K) (hA0 : Aok 0 A) (hd : A.depth ≤ 900) (hu : A.units ≤ 2000) (f g : List Int) (hf : f.length ≤ 100) (hg : g.length ≤ 100) {b c nul : Addr} {rest : List Stmt}
    (F : Fm K mg mb s0 env mt [("NULL",thing nul),("m",.int (f.length : Nat)),("n",.int (g.length : Nat))] s) (Ot : Ow env "t" b mt (g.map (mk nul f)) s) (Or : Ow env "result" c mt ((dueN f g f.length).map mis) s)
    (hb : b ∈ mt) (hc : c ∈ mt) (bL : ¬ Loc env b) (cL : ¬ Loc env c) (b0 : s0.heap.get? b = none) (c0 : s0.heap.get? c = none) (hbc : b ≠ c)
    (h : ∀ s',Fm K mg mb s0 env mt [("NULL",thing nul),("m",.int (f.length : Nat)),("n",.int (g.length : Nat))] s'→Ow env "result" c mt ((dueF f g).map mis) s'→wpAny (model prog w) A (execs rest env) Q E s') :
    wpAny (model prog w) A (execs ((bodyOf (topAt 5)).getD 6 (.Pass default) :: rest) env) Q E s:=by
  have hmL : ∀ x ∈ [b,c],¬ Loc env x:=by
    intro x hx; simp at hx; rcases hx with rfl | rfl <;> assumption
  refine ex_forEn (l := "t") (a:=b) (n:=g.length) ["cnt_t","j","diff"] [b,c] (fun i=>mk nul (f ++ g.take i) (g.getD i 0)) (fun _=>[("NULL",thing nul),("m",.int (f.length : Nat)),("n",.int (g.length : Nat))])
    (fun i m u=>Ow env "t" b m (g.map (mk nul (f ++ g.take i))) u∧Ow env "result" c m ((dueN f g (f.length + i)).map mis) u) F hA0.hd (by rw [kd]; kernel_rfl) N.enumerate.1 N.enumerate.2 ⟨by simpa using Ot,by simpa using Or⟩
    (by intro x hx; simp at hx; rcases hx with rfl | rfl <;> assumption) hmL (.head _) ?_ (by rw [kd]; kernel_rfl) (by rw [kd]; kernel_rfl) ⟨rfl,rfl,rfl,trivial⟩ ?_ ?_ ?_
  · intro i m u o
    refine ⟨_,o.1,by simp,fun hlt=>?_⟩
    rw [List.getElem?_map,List.getElem?_eq_getElem hlt]
    simp [hlt]
  · intro i m₁ m₂ u₁ u₂ zi127 m
    refine e0a2 zi127 fun o₁ o₂=>?_
    exact ⟨m.ow o₁ (by decide) (by simp),m.ow o₂ (by decide) (by simp)⟩
  · intro i m u hlt hmm G zi128
    refine e0a2 zi128 fun ot or=>?_
    have hx : g[i]? = some (g.getD i 0):=by rw [List.getD_eq_getElem?_getD,List.getElem?_eq_getElem hlt]; rfl
    have hxfg : (f ++ g)[f.length + i]? = some (g.getD i 0):=by rw [List.getElem?_append_right (by lia)]; simpa using hx
    have htk : (f ++ g).take (f.length + i) = f ++ g.take i:=by rw [List.take_length_add_append]
    have hts : f ++ g.take (i + 1) = (f ++ g.take i) ++ [g.getD i 0]:=by rw [List.take_add_one,hx,List.append_assoc]; rfl
    generalize g.getD i 0 = x at hx hxfg hts G
    refine ex_if G (pt_isM _ (pe_name _ rfl) (pe_name _ rfl)) (fun hbx u₁ G₁ k₁=>?_) (fun hbx u₁ G₁ k₁=>?_)
    · have hxm : x ∈ f ++ g.take i:=by simpa using hbx
      refine ex_continue ⟨G₁.to _ ⟨rfl,rfl,rfl,trivial⟩,?_,Kx.of k₁⟩
      have e : dueN f g (f.length + (i + 1)) = dueN f g (f.length + i):=by rw [← Nat.add_assoc,dueN_succ hxfg,htk,if_neg (fun z=>z.1 hxm),List.append_nil]
      rw [e,hts]
      exact ⟨by rw [map_mk_mem hxm]; exact ot.keeps k₁,or.keeps k₁⟩
    have hxm : x ∉ f ++ g.take i:=by simpa using hbx
    have ek : mk nul (f ++ g.take i) x = one x:=by unfold mk; rw [if_neg hxm]
    rw [ek] at G₁
    refine wpAny_execs_nil ?_
    refine ex_assign (d:=.int 0) G₁ (.inl (by rw [kd]; kernel_rfl)) (pe_int 0 _ _) (fun u₂ G₂ k₂=>?_) (by kernel_rfl)
    have ot₂:=(ot.keeps k₁).kl k₂ G₁ (by decide) bL
    have or₂:=(or.keeps k₁).kl k₂ G₁ (by decide) cL
    have kx₂ : Kx env ["cnt_t","j","diff"] [b,c] u u₂:=Kx.trans (Kx.of k₁) (Kx.ofKl (k₂.mono (by simp)))
    refine cd_range (c := "cnt_t") (ρ:=[("elem",one x),("i",.int (i : Nat)),("NULL",thing nul),("m",.int (f.length : Nat)),("n",.int (g.length : Nat))]) (ms:=[b,c]) (M:=f ++ g.take i) (L:=g) (x:=x) (i:=i) (nul:=nul)
      (O:=fun mm uu=>Ow env "result" c mm ((dueN f g (f.length + i)).map mis) uu) hA0 N (G₂.to _ ⟨rfl,rfl,rfl,rfl,rfl,rfl,trivial⟩) ot₂ or₂
      (by intro x hx; simp at hx; rcases hx with rfl | rfl <;> exact hmm _ (by assumption)) hmL (.head _) b0 ?_ ?_ rfl rfl rfl rfl rfl (by decide) (by decide) (by decide) (by decide) (by decide) (by decide) (by decide)
      ⟨rfl,rfl,rfl,rfl,rfl,rfl,trivial⟩ (by rw [kd]; kernel_rfl) (by rw [kd]; kernel_rfl) (by rw [kd]; kernel_rfl) hxm (fun _ h=>List.mem_append.mpr (.inr h)) (Nat.le_of_lt hlt) hg (by decide) (by decide) fun u₃ G₃ ot₃ or₃ k₃=>?_
    · intro m₁ m₂ s₁ s₂ o₁ mv
      exact mv.ow o₁ (by decide) (by simp)
    · intro m₁ s₁ s₂ hms hll o₁ k
      have hm1 : ∀ z ∈ [b],z ∈ m₁:=fun z hz=>by rcases List.mem_cons.mp hz with rfl | hz; exact hms _ (.head _); cases hz
      exact o₁.kx k (by decide) (by simp [Ne.symm hbc]) cL hll hm1
    have c0' : f.count x = 0:=List.count_eq_zero.mpr fun z=>hxm (List.mem_append.mpr (.inl z))
    have cg : 0 < g.count x:=List.count_pos_iff.mpr (List.mem_of_getElem? hx)
    have hne : f.count x ≠ g.count x:=by lia
    refine hideG fun zD zhD=>?_
    refine e2a3 NC.cls fun oc cc hcl hct hcd=>?_
    refine zhD ?_
    clear zhD zD
    refine ex_assign (d:=mis (0,((g.count x : Nat) : Int),x)) G₃ (.inl (by rw [kd]; kernel_rfl)) (pe_call_c _ _ (by rw [kd]; kernel_rfl) NC.mis hcl hct hcd (cc_mis hM hA0.hd hd hu (0,((g.count x : Nat) : Int),x))
      (.cons (pe_int 0 _ _) (fun _=>rfl) (.cons (pe_name _ rfl) (fun _=>rfl) (.cons (pe_name _ rfl) (fun _=>rfl) .nil)))) (fun u₆ G₆ k₆=>?_) (by kernel_rfl)
    have ot₆:=ot₃.kl k₆ G₃ (by decide) bL
    have or₆:=or₃.kl k₆ G₃ (by decide) cL
    have hcl : ∀ z ∈ [c],¬ Loc env z:=fun z hz=>by rcases List.mem_cons.mp hz with rfl | hz; exact cL; cases hz
    have hcm : ∀ z ∈ [c],z ∈ m:=fun z hz=>by rcases List.mem_cons.mp hz with rfl | hz; exact hmm _ hc; cases hz
    refine ex_appendO G₆ or₆ (hmm _ hc) cL c0 (pe_name _ rfl) (by rw [List.length_map,sizeLine_eq]; have:=dueN_len f g (f.length + i); lia) (fun u₇ G₇ or₇ hv₇ k₇=>wpAny_execs_nil ⟨G₇.to _ ⟨rfl,rfl,rfl,trivial⟩,?_,?_⟩) (fun _=>rfl) (by decide) rfl hi
    · rw [hts,← Nat.add_assoc,dueN_succ hxfg,htk,if_pos ⟨hxm,hne⟩,c0']
      refine ⟨ot₆.kbm k₇ hcm hcl (by simp [hbc]),?_⟩
      rw [List.map_append]; exact or₇
    · exact Kx.trans kx₂ (Kx.trans (k₃.mono (by simp) (by simp)) (Kx.trans (Kx.ofKl (k₆.mono (by simp))) ((Kx.ofKb k₇ hcl).mono (fun _ h=>h) (by simp))))
  · intro s' F' o _
    refine h s' F' ?_
    have:=o.2
    rw [← List.length_append,dueN_all] at this
    exact this
set_option maxHeartbeats 4000000 in
theorem cc_countdiff {doc : Value} (H : FnAt K 145 (fdCount doc)) (N : Nm mg mb) (NC : NmC mg K) (hM : MisNew prog w K) (hA : Aok 2 A) (hd : A.depth ≤ 800) (hu : A.units ≤ 1000) (f g : List Int) (hf : f.length ≤ 100) (hg : g.length ≤ 100) :
    CC prog w K mg mb A (.ref 145) [.list (f.map one),.list (g.map one)] (.list ((dueF f g).map mis)):=by
  refine cc_def (fd:=fdCount doc) (body:=bodyOf (topAt 5)) (["actual","expected"] : List Str) hA (o:={ cls:=.type "function",data:=.func (fdCount doc) }) H.1 rfl H.2 rfl rfl (by decide)
    (fun vs h=>by match vs,h with | [a,b],_=>kernel_rfl) (show ∀ x ∈ (["actual","expected"] : List Str),(scopeOf (topAt 5)).names.lookup x = some .local ∨ (scopeOf (topAt 5)).names.lookup x = some .cell from by decide +kernel) ?_
  intro s mt s₁ hex F
  have hA1:=hA.deeper (callEnvC (fdCount doc) s.heap.objs.size 145)
  have hd1 : (A.deeper (callEnvC (fdCount doc) s.heap.objs.size 145)).depth ≤ 900:=by show A.depth + 1 ≤ 900; lia
  have hu1 : (A.deeper (callEnvC (fdCount doc) s.heap.objs.size 145)).units ≤ 2000:=by show A.units + 3 ≤ 2000; lia
  revert hu1
  revert hd1
  revert hA1
  refine genA (A.deeper (callEnvC (fdCount doc) s.heap.objs.size 145)) fun A' hA1 hd1 hu1=>?_
  revert F
  refine genE (callEnvC (fdCount doc) s.heap.objs.size 145) fun env hE F=>?_
  have kd : ∀ x,env.kindOf x = (scopeOf (topAt 5)).names.lookup x:=fun x=>by rw [← hE]; rfl
  have hi : interactive env = false:=by rw [← hE]; kernel_rfl
  refine ex_doc F hi fun s₂ F₂=>?_
  have hf' : (f.map one).length ≤ sizeLine:=by rw [List.length_map,sizeLine_eq]; lia
  have hg' : (g.map one).length ≤ sizeLine:=by rw [List.length_map,sizeLine_eq]; lia
  have hA0 : Aok 0 A':=hA1.le (by decide)
  refine ex_pairR hA0 (wpAny_items_cons (raw_list F₂.sv (by rw [kd]; kernel_rfl) N.list.1 N.list.2 (x := "actual") rfl hf' fun h₃ vs₃ hk₃ hl₃ hr₃=>?_) rfl) (by rw [← hE]; kernel_rfl)
  have k23 : Keeps s₂ { s₂ with heap:=h₃ }:=⟨h₃,s₂.toks,rfl,hk₃⟩
  have an : s₂.heap.get? s₂.heap.objs.size = none:=Heap.get?_none_of_le (Nat.le_refl _)
  have alt : s₂.heap.objs.size < h₃.objs.size:=let ⟨_,e⟩:=hl₃; Heap.lt_size e
  have bn3 : h₃.get? h₃.objs.size = none:=Heap.get?_none_of_le (Nat.le_refl _)
  revert hl₃
  revert alt
  revert an
  refine genA (s₂.heap.objs.size) fun a an alt hl₃=>?_
  have F₃:=F₂.start (wr:=[a]) k23 (fun x hx=>by rcases List.mem_cons.mp hx with rfl | hx; exact an; cases hx) (fun x hx=>by rcases List.mem_cons.mp hx with rfl | hx; exact (let ⟨_,e⟩:=hl₃; ⟨_,e⟩); cases hx)
  have aL : ¬ Loc env a:=fun hl=>not_mt F₂.mex an (F₂.locs a hl).1
  have a0:=none_old F₂.keep an
  refine wpAny_items_cons (raw_list F₃.sv (by rw [kd]; kernel_rfl) N.list.1 N.list.2 (x := "expected") rfl hg' fun h₄ vs₄ hk₄ hl₄ hr₄=>wpAny_items_nil ⟨_,_,rfl,fun s₅ k45=>?_⟩) rfl
  replace hk₄ : ∀ b o,h₃.get? b = some o→h₄.get? b = some o:=hk₄
  have k35 : Keeps { s₂ with heap:=h₃ } s₅:=Keeps.trans' (⟨h₄,s₂.toks,rfl,hk₄⟩ : Keeps { s₂ with heap:=h₃ } { s₂ with heap:=h₄ }) k45
  have k25:=Keeps.trans' k23 k35
  have hl5 : s₅.heap.PlainList a vs₃.toArray:=let ⟨n,e⟩:=hl₃; ⟨n,Keeps.ext k35 _ _ e⟩
  have hm5 : s₅.heap.PlainList h₃.objs.size vs₄.toArray:=let ⟨n,e⟩:=hl₄; ⟨n,Keeps.ext k45 _ _ e⟩
  have hab : a ≠ h₃.objs.size:=Nat.ne_of_lt alt
  show wpAny (model prog w) A' (storeName env "t" (.ref h₃.objs.size)) (fun _ s₆=>wpAny (model prog w) A' (storeName env "s" (.ref a)) _ _ s₆) _ s₅
  replace hr₄ : RpA h₃ ([a] ++ (mtOf env ++ mt)) vs₄ (g.map one):=hr₄
  revert hab
  revert hm5
  revert alt
  revert bn3
  refine genA (h₃.objs.size) fun b bn3 alt hm5 hab=>?_
  have F5:=F₃.start (wr:=[b]) k35 (fun x hx=>by rcases List.mem_cons.mp hx with rfl | hx; exact bn3; cases hx) (fun x hx=>by rcases List.mem_cons.mp hx with rfl | hx; exact (let ⟨_,e⟩:=hm5; ⟨_,e⟩); cases hx)
  have bL : ¬ Loc env b:=fun hl=>not_mt F₃.mex bn3 (F₃.locs b hl).1
  have b0:=none_old F₃.keep bn3
  have r5 : RpA s₅.heap ([b] ++ ([a] ++ (mtOf env ++ mt))) vs₃ (f.map one):=((hr₃.hide fun x hx=>by
    rcases List.mem_cons.mp hx with rfl | hx
    · exact .inr (none_old k23 bn3)
    · rcases List.mem_cons.mp hx with rfl | hx
      · exact .inr an
      · exact .inl hx).ext (Keeps.ext k25))
  have q5 : RpA s₅.heap ([b] ++ ([a] ++ (mtOf env ++ mt))) vs₄ (g.map one):=((hr₄.hide fun x hx=>by
    rcases List.mem_cons.mp hx with rfl | hx
    · exact .inr bn3
    · exact .inl hx).ext (Keeps.ext k35))
  have hmm : ∀ x ∈ mt,x ∈ [b] ++ ([a] ++ (mtOf env ++ mt)):=fun x hx=>by simp [hx]
  have haE : a ∈ [b] ++ ([a] ++ (mtOf env ++ mt)):=.tail _ (.head _)
  have hbE : b ∈ [b] ++ ([a] ++ (mtOf env ++ mt)):=.head _
  refine hideG fun zD zhD=>?_
  revert hbE
  revert haE
  revert hmm
  revert q5
  revert r5
  revert F5
  refine genA ([b] ++ ([a] ++ (mtOf env ++ mt))) fun mE F5 r5 q5 hmm haE hbE=>?_
  refine zhD ?_
  clear zhD zD
  refine F5.storeV (.inl (by rw [kd]; kernel_rfl)) [] trivial rfl fun s₆ F6 hv6 k6=>F6.storeV (.inl (by rw [kd]; kernel_rfl)) [] trivial rfl fun s₇ F7 hv7 k7=>?_
  have O7 : Ow env "s" a mE (f.map one) s₇:=⟨hv7,vs₃,(hl5.at fun o e=>k6.ext a o aL e).at fun o e=>k7.ext a o aL e,k7.rpA F6 (k6.rpA F5 r5)⟩
  have P7 : Ow env "t" b mE (g.map one) s₇:=⟨k7.var _ _ (by decide) hv6,vs₄,(hm5.at fun o e=>k6.ext b o bL e).at fun o e=>k7.ext b o bL e,k7.rpA F6 (k6.rpA F5 q5)⟩
  clear hv6 hv7 k6 k7 F5 F6 r5 q5 hl5 hm5 k25 k35 k45 hk₄ hl₄ hr₄ hk₃ hl₃ hr₃ k23 F₃ bn3 an alt F₂
  refine e1a2 O7.lst fun us u1 u2=>?_
  refine e1a2 P7.lst fun ts w1 w2=>?_
  have ul : us.length = f.length:=by simpa using u2.length
  have wl : ts.length = g.length:=by simpa using w2.length
  refine ex_pairR hA0 (wpAny_items_cons (raw_len F7.sv (by rw [kd]; kernel_rfl) N.len.1 N.len.2 (x := "s") O7.var u1 (by lia) fun tu s₈ k8=>wpAny_items_cons (raw_len (F7.keeps k8).sv (by rw [kd]; kernel_rfl) N.len.1 N.len.2 (x := "t") (P7.keeps k8).var (w1.at fun o e=>Keeps.ext k8 _ o e) (by lia) fun tw s₉ k9=>wpAny_items_nil ⟨_,_,rfl,fun s₁₀ k10=>?_⟩) rfl) rfl) (by rw [← hE]; kernel_rfl)
  have k710:=Keeps.trans' k8 (Keeps.trans' k9 k10)
  rw [ul,wl]
  have F10:=F7.keeps k710
  refine F10.store (.inl (by rw [kd]; kernel_rfl)) (.int (g.length : Nat) tw) fun s₁₁ F11 k11=>F11.store (.inl (by rw [kd]; kernel_rfl)) (.int (f.length : Nat) tu) fun s₁₂ F12 k12=>?_
  have O12:=((O7.keeps k710).kl k11 F10 (by decide) aL).kl k12 F11 (by decide) aL
  have P12:=((P7.keeps k710).kl k11 F10 (by decide) bL).kl k12 F11 (by decide) bL
  clear O7 P7 F7 F10 F11 k11 k12 k8 k9 k10 k710 u1 u2 w1 w2
  refine ex_object F12 (.inl (by rw [kd]; kernel_rfl)) hA0.hd hd1 hu1 (by rw [kd]; kernel_rfl) N.object.1 N.object.2 (fun s₁₃ nul nn F13 k13=>?_)
  have O13:=O12.kl k13 F12 (by decide) aL
  have P13:=P12.kl k13 F12 (by decide) bL
  refine ex_newlist F13 (.inl (by rw [kd]; kernel_rfl)) [("NULL",thing nul),("m",.int (f.length : Nat)),("n",.int (g.length : Nat))] ⟨rfl,rfl,rfl,trivial⟩ rfl fun s₁₄ c cn cL F14 hv14 hl14 k14=>?_
  have c0:=none_old F13.keep cn
  have hide : ∀ {x : Str} {d : Addr} {ds : List PyData},Ow env x d mE ds s₁₃→Ow env x d (c :: mE) ds s₁₃:=fun o =>
    ⟨o.var,let ⟨vs,h1,h2⟩:=o.lst; ⟨vs,h1,h2.hide fun b hb=>by rcases List.mem_cons.mp hb with rfl | hb; exact .inr cn; exact .inl hb⟩⟩
  have mvs : Mv env ["result"] [a,b] (c :: mE) (c :: mE) s₁₃ s₁₄:=by
    refine ⟨fun x o hx e=>k14.ext x o (fun hl=>?_) e,k14.var,fun _ h=>.inl h⟩
    have:=hx (.tail _ (F13.locs x hl).1)
    simp at this
    rcases this with rfl | rfl
    · exact aL hl
    · exact bL hl
  have O14:=mvs.ow (hide O13) (by decide) (by simp)
  have P14:=mvs.ow (hide P13) (by decide) (by simp)
  have aex : ∃ o,s₁₃.heap.get? a = some o:=let ⟨_,⟨_,e⟩,_⟩:=O13.lst; ⟨_,e⟩
  have bex : ∃ o,s₁₃.heap.get? b = some o:=let ⟨_,⟨_,e⟩,_⟩:=P13.lst; ⟨_,e⟩
  have hac : a ≠ c:=fun q=>by obtain ⟨o,e⟩:=aex; rw [q,cn] at e; cases e
  have hbc : b ≠ c:=fun q=>by obtain ⟨o,e⟩:=bex; rw [q,cn] at e; cases e
  refine cd_phase1 kd hi N NC hM hA0 hd1 hu1 f g hf hg F14 ⟨by rw [mk_nil]; exact O14,by rw [mk_nil]; exact P14,⟨hv14,[],hl14,.nil⟩⟩ (.tail _ haE) (.tail _ hbE) (.head _) aL bL cL a0 b0 c0 hab hac hbc fun s₁₅ F15 o15=>?_
  refine cd_phase2 kd hi N NC hM hA0 hd1 hu1 f g hf hg F15 o15.ot o15.or (.tail _ hbE) (.head _) bL cL b0 c0 hbc fun s₁₆ F16 o16=>?_
  refine ex_retO o16 ⟨_,rfl,F16.keep,?_⟩
  exact o16.rp (not_mt hex c0) fun x hx=>.tail _ (hmm x hx)
end
end Mine
namespace Mine
open PySem PySem.W PyProof.Rows PySem.Calls
noncomputable def MisGet (prog : Program) (w : World) (K : Frag) (name : Str) (pick : Value→Value→Value→Value) : Prop :=
  ∀ (E : Value→Shared→Prop) (s : Shared) (Q : Value→Shared→Prop) (i j : Int) (t u : Tok) (b a dd : Addr) (n : Nat),K.In s.heap →
    s.heap.get? a = some { cls:=.ref 135,dict:=some dd,data:=.seq #[.int i t,.int j u,.ref b] n } →
    (∀ h tk,(∀ c o,s.heap.get? c = some o→h.get? c = some o)→Q (pick (.int i t) (.int j u) (.ref b)) ⟨h,s.gens,s.drawn,tk,s.os⟩) →
    wpAny (model prog w) AX (getAttr (.ref a) name true) Q E s
noncomputable def Post (s : Shared) (Q : Value→Shared→Prop) (v : Value) : Prop:=∀ h tk,(∀ c o,s.heap.get? c = some o→h.get? c = some o)→Q v ⟨h,s.gens,s.drawn,tk,s.os⟩
end Mine
namespace Mine
open PySem PySem.W PyProof.Rows PySem.Calls
abbrev Rw (Q E : Value→Shared→Prop) : Result→Shared→Prop:=fun r s'=>match r with | .ok (.ret v)=>Q v s' | .ok _=>False | .error e=>E e s'
noncomputable def hidS (s : Shared) (hid : List Addr) : Shared:={ s with heap:=hideAll s.heap hid }
theorem hidS_kb {s s' : Shared} {hid : List Addr} (k : Keeps (hidS s hid) s') : Kb hid s s':=by
  obtain ⟨h',tk,e,q⟩:=k
  exact ⟨h',tk,e,fun b o hb ho=>q b o (hideAll_get hid ho hb)⟩
theorem kb_hidS {s s' : Shared} {hid : List Addr} (k : Kb hid s s') : Keeps (hidS s hid) s':=by
  obtain ⟨h',tk,e,q⟩:=k
  refine ⟨h',tk,e,fun b o ho=>?_⟩
  obtain ⟨hn,ho'⟩:=hid_not ho
  exact q b o hn ho'
theorem Gl.hidden {K : Frag} {mg mb : Str→Option Value} {h : Heap} {hid : List Addr} (G : Gl K mg mb (hideAll h hid)) : Gl K mg mb h:=G.ext fun _ _ e=>of_hideAll hid e
section
variable {prog : Program} {w : World} {K : Frag} {mg mb : Str→Option Value} {A : Around}
theorem call_defGC {f : Addr} {o : Obj} {fd : FuncData} {body : List Stmt} {vs : List Value} {s : Shared} {mt hid : List Addr} {Q : Value→Shared→Prop} {E : Value→Shared→Prop}
    (names : List Str) (P : List (Str × Value)→Shared→Prop) (hdp : A.depth < recursionLimit)
    (ho : K.lookup f = some o) (hd : o.data = .func fd) (hcd : codeIn K fd.code fd.qualname = true) (hbody : fd.body = .stmts body)
    (G : Gl K mg mb (hideAll s.heap hid)) (hhm : ∀ b ∈ hid,b ∈ mt) (hex : ∀ a ∈ mt,∃ o,s.heap.get? a = some o)
    (hbind : ∀ E',wpAny (model prog w) A.in1 (bindArgs fd ⟨vs,[]⟩) (fun b s₁=>Keeps s s₁∧b.map (·.1) = names∧P b s₁) E' s)
    (hnd : names.Nodup) (hkn0 : ∀ x ∈ names,fd.scope.names.lookup x = some .local ∨ fd.scope.names.lookup x = some .cell)
    (h : ∀ (b : List (Str × Value)) (s₁ s₂ : Shared) (env : Env),P b s₁→Keeps s s₁→Keeps s₁ s₂→env = callEnvC fd s₁.heap.objs.size f →
      (∀ ρ,(∀ y d,ρ.lookup y = some d→∃ v,(y,v) ∈ b∧Rp s₁.heap mt v d)→Fm K mg mb (hidS s hid) env (mtOf env ++ mt) ρ s₂)→(∀ x v,(x,v) ∈ b→Var env s₂.heap x v) →
      wpAny (model prog w) (A.deeper env) (execs body env) (fun fl s'=>Q (match fl with | .ret v=>v | _=>.none) s')
        (fun e s'=>wpAny (model prog w) (A.deeper env) (leaving env e) (fun _ s''=>E e s'') (fun e' s''=>E e' s'') s') s₂)
    (hclo : fd.closure = []:=by rfl) (hgl : fd.globals = mainGlobals:=by rfl) (hbl : fd.builtins = builtinsNs:=by rfl)
    (hco : fd.scope.isCoroutine = false:=by rfl) (hgen : fd.scope.isGenerator = false:=by rfl) (hkn : fd.scope.kind = .function:=by rfl) :
    codeAny (model prog w) A (.call (.ref f) ⟨vs,[]⟩) (Rw Q E) s:=by
  have Gh:=G.hidden
  refine (codeAny_call_function hdp (Gh.k _ _ ho) hd hco hgen hbody (codeRec_of Gh.k hcd) ?_)
  refine wpAny_mono (hbind _) (fun binds s₁ ⟨k1,hnm,hP⟩=>?_) fun _ _ e=>e
  rw [← hnm] at hnd
  have hk : ∀ x ∈ binds,fd.scope.names.lookup x.1 = some .local ∨ fd.scope.names.lookup x.1 = some .cell:=fun x hx=>hkn0 x.1 (hnm ▸ List.mem_map.mpr ⟨x,hx,rfl⟩)
  rw [hclo]
  refine wpAny_newFunctionEnv_cells hkn (fun x hx=>?_) fun env he s₂ X=>?_
  · rcases hk x hx with h1 | h1
    · exact .inl h1
    · refine .inr ⟨h1,?_⟩
      refine e1a1 (cellsFrom_mem fd.scope.names (s₁.heap.objs.size + 1) [] x.1 h1) fun c hc=>?_
      refine e1a1 (lookup_of_mem hc) fun c' hc'=>?_
      rw [hc']; rfl
  refine ⟨(Gh.lim |> fun l=>let ⟨mc,a,b⟩:=l; (⟨mc,(a.keeps (Keeps.ext k1)).keeps X.toInCall.keep,b⟩ : Heap.NoLimit s₂.heap)),codeAny_func ?_⟩
  have hL : env.locals = s₁.heap.objs.size:=by rw [he]; rfl
  have hks : env.scope = fd.scope:=by rw [he]; rfl
  have hcs : env.cells = cellsFrom (s₁.heap.objs.size + 1) fd.scope.names []:=by rw [he]; rfl
  have k2 : Keeps s₁ s₂:=X.done
  have k02:=Keeps.trans' k1 k2
  have fresh : ∀ b,s₁.heap.objs.size ≤ b→s₁.heap.get? b = none:=fun b hb=>by
    cases e : s₁.heap.get? b with
    | none=>rfl
    | some o=>exact absurd (Heap.lt_size e) (Nat.not_lt.mpr hb)
  have newm : ∀ b ∈ mtOf env,s₁.heap.get? b = none:=fun b hb=>by
    rcases List.mem_cons.mp hb with rfl | hb
    · exact fresh _ (Nat.le_of_eq hL.symm)
    · refine e1a2 (List.mem_map.mp hb) fun p hp zr337=>?_
      subst zr337
      refine e1a1 (lookup_of_mem hp) fun c' hc'=>?_
      rw [hc']
      exact fresh _ (Nat.le_of_lt (hL ▸ X.above p.1 c' (mem_of_lookup hc')))
  have hvars : ∀ x v,(x,v) ∈ binds→Var env s₂.heap x v:=fun x v hv=>by
    have hkx : env.kindOf x = fd.scope.names.lookup x:=by unfold Env.kindOf; rw [hks]
    refine ⟨by rw [hks]; exact hkn,?_⟩
    rcases hk (x,v) hv with h1 | h1
    · exact .inl ⟨by rw [hkx]; exact h1,_,X.toInCall.ns,bindL_in _ _ _ x v hnd hv (by rw [hkx]; exact h1)⟩
    · refine e1a1 (cellsFrom_mem fd.scope.names (s₁.heap.objs.size + 1) [] x h1) fun c hc=>?_
      refine e1a1 (lookup_of_mem hc) fun c' hc'=>?_
      have hcl : env.cells.lookup x = some c':=by rw [hcs]; exact hc'
      have z:=X.cell x c' hcl
      rw [bindC_in _ _ _ x v hnd hv (by rw [hkx,h1]; decide)] at z
      exact .inr ⟨.inl (by rw [hkx]; exact h1),c',hcl,z⟩
  refine h binds s₁ s₂ env hP k1 k2 he (fun ρ hρ=>?_) hvars
  have keep : Keeps (hidS s hid) s₂:=kb_hidS (Kb.of k02)
  refine ⟨G,fun x dx hx=>?_,fun a ha=>?_,by rw [he]; exact hgl,by rw [he]; exact hbl,by rw [hks]; exact hkn,keep,fun b hb=>⟨List.mem_append.mpr (.inl (loc_mt hb)),?_⟩,⟨_,X.toInCall.ns⟩,fun x c hc=>⟨⟨_,X.cell x c hc⟩,Nat.ne_of_gt (X.above x c (mem_of_lookup hc))⟩,fun x y c h1 h2=>name_of_addr X.apart (mem_of_lookup h1) (mem_of_lookup h2),fun x hx=>?_⟩
  · refine e1a2 (hρ x dx hx) fun v hv hr=>?_
    refine ⟨v,hvars x v hv,hr.mono (fun b o _ e=>Keeps.ext k2 b o e) fun b hb=>?_⟩
    rcases List.mem_append.mp hb with h1 | h1
    · exact .inr (newm b h1)
    · exact .inl h1
  · rcases List.mem_append.mp ha with h1 | h1
    · rcases List.mem_cons.mp h1 with rfl | h1
      · obtain ⟨o,_,_,e,_⟩:=X.toInCall.ns; exact ⟨o,e⟩
      · refine e1a2 (List.mem_map.mp h1) fun p hp zr338=>?_
        subst zr338
        refine e1a1 (lookup_of_mem hp) fun c' hc'=>?_
        rw [hc']
        refine e1a2 (X.cell _ _ hc') fun o e _=>?_
        exact ⟨o,e⟩
    · refine e1a1 (hex a h1) fun o e=>?_
      exact ⟨o,Keeps.ext k02 _ _ e⟩
  · have z:=newm b (loc_mt hb)
    show (hideAll s.heap hid).get? b = none
    cases e : (hideAll s.heap hid).get? b with
    | none=>rfl
    | some o =>
      have:=Keeps.ext k1 _ _ (of_hideAll hid e)
      rw [z] at this; cases this
  · have h1 : fd.scope.names.lookup x = some .cell:=by rw [← hks]; exact hx
    refine e1a1 (cellsFrom_mem fd.scope.names (s₁.heap.objs.size + 1) [] x h1) fun c hc=>?_
    refine e1a1 (lookup_of_mem hc) fun c' hc'=>?_
    exact ⟨c',by rw [hcs]; exact hc'⟩
theorem call_defG {f : Addr} {o : Obj} {fd : FuncData} {body : List Stmt} {vs : List Value} {s : Shared} {mt hid : List Addr} {Q : Value→Shared→Prop} {E : Value→Shared→Prop}
    (names : List Str) (P : List (Str × Value)→Shared→Prop) (hdp : A.depth < recursionLimit)
    (ho : K.lookup f = some o) (hd : o.data = .func fd) (hcd : codeIn K fd.code fd.qualname = true) (hbody : fd.body = .stmts body)
    (G : Gl K mg mb (hideAll s.heap hid)) (hhm : ∀ b ∈ hid,b ∈ mt) (hex : ∀ a ∈ mt,∃ o,s.heap.get? a = some o)
    (hbind : ∀ E',wpAny (model prog w) A.in1 (bindArgs fd ⟨vs,[]⟩) (fun b s₁=>Keeps s s₁∧b.map (·.1) = names∧P b s₁) E' s)
    (hnd : names.Nodup) (hkn0 : ∀ x ∈ names,fd.scope.names.lookup x = some .local ∨ fd.scope.names.lookup x = some .cell)
    (h : ∀ (b : List (Str × Value)) (s₁ s₂ : Shared) (env : Env),P b s₁→Keeps s s₁→Keeps s₁ s₂→env = callEnvC fd s₁.heap.objs.size f →
      (∀ ρ,(∀ y d,ρ.lookup y = some d→∃ v,(y,v) ∈ b∧Rp s₁.heap mt v d)→Fm K mg mb (hidS s hid) env (mtOf env ++ mt) ρ s₂)→(∀ x v,(x,v) ∈ b→Var env s₂.heap x v) →
      wpAny (model prog w) (A.deeper env) (execs body env) (fun fl s'=>Q (match fl with | .ret v=>v | _=>.none) s')
        (fun e s'=>wpAny (model prog w) (A.deeper env) (leaving env e) (fun _ s''=>E e s'') (fun e' s''=>E e' s'') s') s₂)
    (hclo : fd.closure = []:=by rfl) (hgl : fd.globals = mainGlobals:=by rfl) (hbl : fd.builtins = builtinsNs:=by rfl)
    (hco : fd.scope.isCoroutine = false:=by rfl) (hgen : fd.scope.isGenerator = false:=by rfl) (hkn : fd.scope.kind = .function:=by rfl) :
    wpAny (model prog w) A (call (.ref f) vs) Q E s :=
  wpAny_call (call_defGC names P hdp ho hd hcd hbody G hhm hex hbind hnd hkn0 h hclo hgl hbl hco hgen hkn)
theorem call_defP {f : Addr} {o : Obj} {fd : FuncData} {body : List Stmt} {vs : List Value} {binds : List (Str × Value)} {s : Shared} {mt hid : List Addr} {Q : Value→Shared→Prop} {E : Value→Shared→Prop}
    (names : List Str) (hdp : A.depth < recursionLimit)
    (ho : K.lookup f = some o) (hd : o.data = .func fd) (hcd : codeIn K fd.code fd.qualname = true) (hbody : fd.body = .stmts body)
    (G : Gl K mg mb (hideAll s.heap hid)) (hhm : ∀ b ∈ hid,b ∈ mt) (hex : ∀ a ∈ mt,∃ o,s.heap.get? a = some o)
    (hbind : bindArgs fd ⟨vs,[]⟩ = pure binds) (hnm : binds.map (·.1) = names) (hnd : names.Nodup) (hk : ∀ x ∈ names,fd.scope.names.lookup x = some .local ∨ fd.scope.names.lookup x = some .cell)
    (h : ∀ (s₂ : Shared) (env : Env),Keeps s s₂→env = callEnvC fd s.heap.objs.size f →
      (∀ ρ,(∀ y d,ρ.lookup y = some d→∃ v,(y,v) ∈ binds∧Rp s.heap mt v d)→Fm K mg mb (hidS s hid) env (mtOf env ++ mt) ρ s₂)→(∀ x v,(x,v) ∈ binds→Var env s₂.heap x v) →
      wpAny (model prog w) (A.deeper env) (execs body env) (fun fl s'=>Q (match fl with | .ret v=>v | _=>.none) s')
        (fun e s'=>wpAny (model prog w) (A.deeper env) (leaving env e) (fun _ s''=>E e s'') (fun e' s''=>E e' s'') s') s₂)
    (hclo : fd.closure = []:=by rfl) (hgl : fd.globals = mainGlobals:=by rfl) (hbl : fd.builtins = builtinsNs:=by rfl)
    (hco : fd.scope.isCoroutine = false:=by rfl) (hgen : fd.scope.isGenerator = false:=by rfl) (hkn : fd.scope.kind = .function:=by rfl) :
    wpAny (model prog w) A (call (.ref f) vs) Q E s :=
  call_defG names (P:=fun b s₁=>b = binds∧s₁ = s) hdp ho hd hcd hbody G hhm hex (fun E'=>by rw [hbind]; exact wpAny_pure ⟨Keeps.rfl',hnm,rfl,rfl⟩) hnd hk
    (fun b s₁ s₂ env ⟨e1,e2⟩ _ k2 he hF hv=>by subst e1 e2; exact h s₂ env k2 he hF hv) hclo hgl hbl hco hgen hkn
end
end Mine
namespace Mine
open PySem PySem.W PyProof.Rows PySem.Calls
section
variable {prog : Program} {w : World} {K : Frag} {mg mb : Str→Option Value} {A : Around} {env : Env} {s : Shared} {E : Value→Shared→Prop}
theorem tup_item {a C : Addr} {d : Option Addr} {items : Array Value} {n : Nat} {sl : Array (Option Value)} {k : Nat} {t : Tok} {x : Value} {Q : Value→Shared→Prop} (X : K.In s.heap) (ha : s.heap.get? a = some ⟨.ref C,d,.seq items n,sl⟩)
    (hm : mroIn K C (.type "tuple") = some true) (hk : items[k]? = some x) (hz : items.size < 1000000) (h : Q x s) : wpAny (model prog w) A (call (.builtin "tuple.__getitem__") [.ref a,.int (k : Nat) t]) Q E s:=by
  have hty : Looks (model prog w) s.heap (typeOf (.ref a)) (.ref C):=(Looks.ld ha).andThen .now
  have hi : Looks (model prog w) s.heap (isInstance (.ref a) (.type "tuple")) true:=hty.andThen (looks_mroIn X hm)
  have hlt : k < items.size:=(Array.getElem?_eq_some_iff.mp hk).1
  refine wpAny_call (codeAny_call_builtin slot_tuple_getitem.plain entry_tuple_getitem (@check_slot (model prog w) _ _ s "tuple.__getitem__" "tuple" "__getitem__" (.ref a) [.int (k : Nat) t] [] _ (by decide +kernel) (by decide +kernel) hi (args_tuple_getitem _ _) ?_))
  show wpAny _ _ (Builtin.Tuple.tupleItemsOf (.ref a) >>= _) _ _ s
  unfold Builtin.Tuple.tupleItemsOf
  refine wpAny_bind (wpAny_bind (wpAny_seqItems ha rfl (wpAny_pure ?_)))
  refine wpAny_bind (wpAny_typeOf (typeIs_int s k t) ?_)
  rw [if_neg (by decide)]
  refine wpAny_bind (wpAny_specialOf (T := "int") (typeIs_int s k t) int_index ?_)
  rw [if_neg (by simp)]
  refine wpAny_bind (wpAny_of_eq (a:=((k : Nat) : Int)) rfl ?_)
  rw [if_neg (by simp only [Bool.or_eq_true,decide_eq_true_eq]; lia)]
  have hs : seqIndex? ((k : Nat) : Int) items.size = some k:=by
    unfold seqIndex?
    have : ¬ ((k : Nat) : Int) < 0:=by lia
    simp [this,hlt]
  simp only [hs,Option.bind_some,hk]
  exact wpAny_pure h
theorem meth_type {T : String} {name : Str} {v : Value} {pl : Sem Bool} {Q : Value × List Value→Shared→Prop} (X : K.In s.heap) (ht : typeOf (.type T) = pure (.type "type")) (hs : Manifest.isStub T = false)
    (hg : findIn K (.type "type") "__getattribute__" = some (some (.builtin "type.__getattribute__")))
    (e : findCls K (.type T) (.type "type") name = some (.val v)) (hh : handedIn v = true) (h : Q (v,[]) { s with toks:=s.toks + 1 }) : wpAny (model prog w) A (getMethod (.type T) name pl) Q E s:=by
  have L0 : Looks (model prog w) s.heap (typeOf (.type T)) (.type "type"):=Looks.of_pure ht
  have LO : Looks (model prog w) s.heap (opaqueClassAbove (.type T)) none:=Looks.of_pure (by unfold opaqueClassAbove; dsimp only; rw [hs]; rfl)
  unfold getMethod specialOf
  refine wpAny_bind (wpAny_bind (L0.here ((looks_findIn X hg).here ?_)))
  dsimp only
  rw [if_pos canon_tga]
  refine wpAny_bind (cls_open X LO L0 hg (looks_hook X (r:=none) (by rfl)) (by show subIn K _ _ = _; rfl) e (wpAny_pure ?_))
  show wpAny _ _ (handedOut v) _ _ _
  rw [handedOut_of hh]
  exact wpAny_pure (wpAny_pure h)
theorem call_attr {o : Expr} {name : Str} {apos pos : Pos} {args : List Expr} {Q : Value→Shared→Prop}
    (hbase : attributeBase o name env (eval o env) = eval o env)
    (hfew : methodCallForm (args.length + ([] : List Keyword).length) (backTo pos (starEach args env)) (backToKw pos (keywordEach [] env)) = true)
    (hline : (apos.endLine == pos.line) = true)
    (h : wpAny (model prog w) A (eval o env) (fun ov s₁=>∀ pl,wpAny (model prog w) A (getMethod ov name pl) (fun fx s₂=>wpAny (model prog w) A (callWith pos fx.1 fx.2 (backTo pos (starEach args env)) []) Q E s₂) E s₁) E s) :
    wpAny (model prog w) A (eval (.Call (.Attribute o name apos) args [] pos) env) Q E s:=by
  rw [arm_eval_Call,hbase]
  refine wpAny_bind (wpAny_mono h (fun ov s₁ h₁=>?_) fun _ _ e=>e)
  refine wpAny_bind (wpAny_standAt ?_)
  have hpos : methodCallPos true o env apos pos = pure pos:=by unfold methodCallPos; simp [hline]
  unfold methodCall
  rw [hfew]
  refine wpAny_bind (wpAny_holding ?_)
  unfold calleeOf
  rw [if_pos rfl]
  exact wpAny_mono (h₁ _) (fun fx s₂ h₂=>wpAny_bind (wpAny_of_eq hpos h₂)) fun _ _ e=>e
end
noncomputable def methAt (i j : Nat) : Stmt:=(bodyOf (topAt i)).getD j (.Pass default)
noncomputable def fdGet (dV doc : Value) : FuncData:=fdS (methAt 2 1) "__get__" "_tuplegetter.__get__" (.str "cpy313.unittest.util" 194) (.ref 42) dV doc
structure MisK (prog : Program) (w : World) (K : Frag) (name : Str) (k : Nat) (gk : Addr) : Prop where
  ga : findIn K (.ref 135) "__getattribute__" = some (some (.builtin "tuple.__getattribute__"))
  gm : findIn K (.ref 135) "__getattr__" = some none
  fnd : findObj K 135 (some { cls:=.type "dict",data:=.dict #[] }) name = some (.bind (.ref 43) (.ref gk))
  tup : mroIn K 135 (.type "tuple") = some true
  fn : ∃ dV doc,FnAt K 43 (fdGet dV doc)∧∀ a : Addr,peek K ⟨prog,w.params⟩ (bindArgs (fdGet dV doc) ⟨[.ref gk,.ref a,.ref 135],[]⟩) = some ([("self",.ref gk),("obj",.ref a),("objtype",.ref 135)] : List (Str × Value))
  tga : findIn K (.type "type") "__getattribute__" = some (some (.builtin "type.__getattribute__"))
  tgi : findCls K (.type "tuple") (.type "type") "__getitem__" = some (.val (.builtin "tuple.__getitem__"))
  inst : ∃ dx od t,K.lookup gk = some { cls:=.ref 60,dict:=some dx }∧K.lookup dx = some od∧findObj K 60 (some od) "index" = some (.value (.int (k : Nat) t))
  ga60 : findIn K (.ref 60) "__getattribute__" = some (some (.builtin "object.__getattribute__"))
  iss : ∀ (E : Value→Shared→Prop) (s : Shared) (Q : Value→Shared→Prop),K.In s.heap→Post s Q (.bool true)→wpAny (model prog w) AX (call (.builtin "issubclass") [.ref 135,.type "tuple"]) Q E s
section
variable {prog : Program} {w : World} {K : Frag} {mg mb : Str→Option Value} {A : Around} {env : Env} {s : Shared} {E : Value→Shared→Prop}
theorem args1 {f : Value} {pos : Pos} {e : Expr} {Q : Args→Shared→Prop} (h : wpAny (model prog w) A (eval e env) (fun v s₁=>Q ⟨[v],[]⟩ s₁) E s)
    (he : ∀ rest,starEach (e :: rest) env = (false,eval e env) :: starEach rest env:=by intro _; rfl) : wpAny (model prog w) A (evalArgs f true (backTo pos (starEach [e] env)) []) Q E s:=by
  have z : wpAny (model prog w) A (spliced (backTo pos (starEach [e] env))) (fun vs s₁=>Q ⟨vs,[]⟩ s₁) E s:=wpAny_items_cons (wpAny_mono h (fun v s₁ h₁=>wpAny_items_nil h₁) fun _ _ e=>e) (he _)
  rw [he] at z ⊢
  exact evalArgs_plain z
theorem args2 {f : Value} {pos : Pos} {e1 e2 : Expr} {Q : Args→Shared→Prop} (h : wpAny (model prog w) A (eval e1 env) (fun v s₁=>wpAny (model prog w) A (eval e2 env) (fun u s₂=>Q ⟨[v,u],[]⟩ s₂) E s₁) E s)
    (he1 : ∀ rest,starEach (e1 :: rest) env = (false,eval e1 env) :: starEach rest env:=by intro _; rfl) (he2 : ∀ rest,starEach (e2 :: rest) env = (false,eval e2 env) :: starEach rest env:=by intro _; rfl) :
    wpAny (model prog w) A (evalArgs f true (backTo pos (starEach [e1,e2] env)) []) Q E s:=by
  have z : wpAny (model prog w) A (spliced (backTo pos (starEach [e1,e2] env))) (fun vs s₁=>Q ⟨vs,[]⟩ s₁) E s :=
    wpAny_items_cons (wpAny_mono h (fun v s₁ h₁=>wpAny_items_cons (wpAny_mono h₁ (fun u s₂ h₂=>wpAny_items_nil h₂) fun _ _ e=>e) (he2 _)) fun _ _ e=>e) (he1 _)
  rw [he1] at z ⊢
  exact evalArgs_plain z
theorem meth_tgi {pl : Sem Bool} {Q : Value × List Value→Shared→Prop} (X : K.In s.heap) (hg : findIn K (.type "type") "__getattribute__" = some (some (.builtin "type.__getattribute__")))
    (e : findCls K (.type "tuple") (.type "type") "__getitem__" = some (.val (.builtin "tuple.__getitem__"))) (h : Q (.builtin "tuple.__getitem__",[]) { s with toks:=s.toks + 1 }) : wpAny (model prog w) A (getMethod (.type "tuple") "__getitem__" pl) Q E s:=by
  have a1 : handedIn (.builtin "tuple.__getitem__") = true:=by kernel_rfl
  have a2 : Manifest.isStub "tuple" = false:=by kernel_rfl
  have a3 : typeOf (.type "tuple") = (pure (.type "type") : Sem Value):=by kernel_rfl
  exact meth_type (T := "tuple") (name := "__getitem__") (v:=.builtin "tuple.__getitem__") X a3 a2 hg e a1 h
set_option maxHeartbeats 2000000 in
theorem getter_call {name : Str} {k : Nat} {gk a dd : Addr} {items : Array Value} {n : Nat} {x : Value} {Q : Value→Shared→Prop} (H : MisK prog w K name k gk) (N : Nm mg mb) (hA : Aok 1 A) (hd : A.depth ≤ 800) (hu : A.units ≤ 1000) (G : Gl K mg mb s.heap)
    (ha : s.heap.get? a = some { cls:=.ref 135,dict:=some dd,data:=.seq items n }) (hk : items[k]? = some x) (hz : items.size < 1000000) (h : ∀ s',Keeps s s'→Q x s') : wpAny (model prog w) A (call (.ref 43) [.ref gk,.ref a,.ref 135]) Q E s:=by
  refine hideG fun zD zhD=>?_
  refine e2a2 H.fn fun dV doc zs220 HB=>?_
  refine e0a2 zs220 fun H1 H2=>?_
  refine zhD ?_
  clear zhD zD
  have hA1:=hA.deeper (callEnvC (fdGet dV doc) s.heap.objs.size 43)
  refine call_defG ["self","obj","objtype"] (fun b s₁=>b = ([("self",.ref gk),("obj",.ref a),("objtype",.ref 135)] : List (Str × Value))∧s₁ = s) (fd:=fdGet dV doc) (body:=bodyOf (methAt 2 1)) (mg:=mg) (mb:=mb) (mt:=[]) (hid:=[]) (by have:=hA.dp; lia) H1 rfl H2 rfl G (fun b hb=>hb) (fun b hb=>nomatch hb)
    (fun E'=>(Looks.of_peek (M:=model prog w) G.k (HB a)).here ⟨Keeps.rfl',rfl,rfl,rfl⟩) (by decide) (show ∀ x ∈ (["self","obj","objtype"] : List Str),(scopeOf (methAt 2 1)).names.lookup x = some .local ∨ (scopeOf (methAt 2 1)).names.lookup x = some .cell from by decide +kernel) fun b s₁ s₂ env ⟨e1,e2⟩ _ k2 he hF hv=>?_
  subst e1 e2
  have F₂:=hF [] (fun y d e=>nomatch e)
  have V1:=hv "self" (.ref gk) (.head _)
  have V2:=hv "obj" (.ref a) (.tail _ (.head _))
  have kd : ∀ x,env.kindOf x = (scopeOf (methAt 2 1)).names.lookup x:=fun x=>by rw [he]; rfl
  rw [← he] at hA1
  have hd1 : (A.deeper env).depth ≤ 900:=by show A.depth + 1 ≤ 900; lia
  have hu1 : (A.deeper env).units ≤ 2000:=by show A.units + 3 ≤ 2000; lia
  have hh : (A.deeper env).handled = none:=hA1.hd
  generalize A.deeper env = A' at hA1 hd1 hu1 hh ⊢
  clear he hF hv
  have ha2:=Keeps.ext k2 _ _ ha
  refine ex_ifR F₂ (b:=false) (wpAny_isTrue_Compare1 (wpAny_Name (V2.load (wpAny_Constant_none (is_none_ne (by intro e; cases e) (wpAny_truthy_bool ⟨rfl,Keeps.rfl'⟩)))) (by decide)) (by with_unfolding_all rfl)) (fun e=>nomatch e) fun _ s₃ F₃ k3=>wpAny_execs_nil ?_
  have ha3:=Keeps.ext k3 _ _ ha2
  have V3:=V2.ext (Keeps.ext k3)
  refine ex_ifR F₃ (b:=false) (wpAny_isTrue_Not (isTrue_plain (Call_Name rfl (nm_b F₃.sv (by rw [kd]; kernel_rfl) N.issubclass.1 N.issubclass.2 (callWith_builtin rfl (args2 ?_)))))) (fun e=>nomatch e) fun _ s₄ F₄ k4=>wpAny_execs_nil ?_
  · refine Call_Name rfl (nm_b F₃.sv (by rw [kd]; kernel_rfl) N.type.1 N.type.2 (PyProof.Rows.callWith_type rfl (args1 (wpAny_Name (V3.load ?_) (by decide)))))
    refine hideG fun zD zhD=>?_
    obtain ⟨h3,g3,d3,t3,os3⟩:=s₃
    refine zhD ?_
    clear zhD zD
    refine call_type_obj ha3 (by rfl) ?_
    refine nm_b F₃.sv (by rw [kd]; kernel_rfl) N.tuple.1 N.tuple.2 ?_
    refine of_AX hh hd1 hu1 (H.iss _ _ _ F₃.sv.gl.k fun h tk hk'=>wpAny_truthy_bool ⟨rfl,Keeps.of hk'⟩)
  have ha4:=Keeps.ext k4 _ _ ha3
  have V4:=V3.ext (Keeps.ext k4)
  have W4:=(V1.ext (Keeps.ext k3)).ext (Keeps.ext k4)
  refine wpAny_execs_cons (wpAny_Return_some (call_attr rfl (by rfl) (by rfl) (nm_b F₄.sv (by rw [kd]; kernel_rfl) N.tuple.1 N.tuple.2 fun pl=>?_)))
  have X4:=F₄.sv.gl.k
  refine meth_tgi X4 H.tga H.tgi ?_
  have kt : ∀ t,Keeps s₄ { s₄ with toks:=t }:=fun t=>Keeps.tok t
  refine callWith_builtin rfl (args2 (wpAny_Name (Var.load (s:={ s₄ with toks:=s₄.toks + 1 }) V4 ?_) (by decide)))
  refine hideG fun zD zhD=>?_
  refine e3a3 H.inst fun dx od t hi1 hi2 hi3=>?_
  refine zhD ?_
  clear zhD zD
  refine Attribute_Name_ (wpAny_Name (Var.load (s:={ s₄ with toks:=s₄.toks + 1 }) W4 ?_) (by decide)) rfl
  refine get_value (s:={ s₄ with toks:=s₄.toks + 1 }) (od:=some od) X4 ⟨X4 _ _ hi1,rfl,rfl,X4 _ _ hi2⟩ H.ga60 hi3 (by rfl) ?_
  refine tup_item (s:={ s₄ with toks:=s₄.toks + 1 + 1 }) X4 ha4 H.tup hk hz ?_
  refine h _ ?_
  exact Keeps.trans' (Keeps.trans' k2 (Keeps.trans' k3 k4)) (Keeps.tok _)
end
end Mine
namespace Mine
open PySem PySem.W PyProof.Rows PySem.Calls
section
variable {prog : Program} {w : World} {A : Around} {s : Shared} {E : Value→Shared→Prop}
theorem eqb (x y : Value) {b : Bool} {Q : Bool→Shared→Prop} (h : SeqAt.EqAt A s x y b) (q : Q b s) : wpAny (model prog w) A (eqBool x y) Q E s:=h prog w E Q q
theorem mis_tuple_eq {l b : Addr} {dd : Option Addr} {x0 x1 x2 y0 y1 y2 : Value} {n n2 : Nat} {Q : Fin→Shared→Prop} (hl : s.heap.get? l = some { cls:=.ref 135,dict:=dd,data:=.seq #[x0,x1,x2] n }) (hb : s.heap.get? b = some { cls:=.type "tuple",data:=.seq #[y0,y1,y2] n2 })
    (h0 : SeqAt.EqAt A s x0 y0 true) (h1 : SeqAt.EqAt A s x1 y1 true) (h2 : SeqAt.EqAt A s x2 y2 true) (h : Q (.done (.ret (.bool true))) s) :
    wpAny (model prog w) A (Builtin.«tuple.__eq__» ⟨[.ref l,.ref b],[]⟩) Q E s:=by
  have hi : wpAny (model prog w) A (isInstance (.ref b) (.type "tuple")) (fun r s'=>r = true∧s' = s) E s:=wpAny_isInstance (T := "tuple") (b:=true) ⟨_,hb,rfl⟩ AutoSeq1.sub_tuple_tuple ⟨rfl,rfl⟩
  show wpAny _ _ (isInstance (.ref b) (.type "tuple") >>= _) _ _ _
  refine wpAny_bind (wpAny_mono hi (fun r s' ⟨e1,e2⟩=>?_) fun _ _ e=>e)
  subst e1 e2
  simp only [Bool.not_true,Bool.false_eq_true,if_false]
  unfold Builtin.Tuple.tupleItemsOf
  refine wpAny_bind (wpAny_bind (wpAny_seqItems hl rfl (wpAny_pure ?_)))
  refine wpAny_bind (wpAny_bind (wpAny_seqItems hb rfl (wpAny_pure ?_)))
  show wpAny _ _ (forIn [(x0,y0),(x1,y1),(x2,y2)] _ _ >>= _) _ _ _
  simp only [List.forIn_cons,List.forIn_nil]
  refine wpAny_bind (wpAny_bind (wpAny_bind (eqb _ _ h0 ?_)))
  refine wpAny_pure ?_
  refine wpAny_bind (wpAny_bind (eqb _ _ h1 ?_))
  refine wpAny_pure ?_
  refine wpAny_bind (wpAny_bind (eqb _ _ h2 ?_))
  refine wpAny_pure (wpAny_pure ?_)
  exact wpAny_pure h
end
section
variable {A : Around} {s : Shared} {K : Frag}
theorem mis_rc {l b : Addr} {dd : Option Addr} {x0 x1 x2 y0 y1 y2 : Value} {n n2 : Nat} (X : K.In s.heap) (he : findIn K (.ref 135) (cmpInfo .Eq).2.1 = some (some (.builtin "tuple.__eq__"))) (hm : mroIn K 135 (.type "tuple") = some true) (hs : isSubtype (.type "tuple") (.ref 135) = pure false) (hu : A.units < cLine)
    (hl : s.heap.get? l = some { cls:=.ref 135,dict:=dd,data:=.seq #[x0,x1,x2] n }) (hb : s.heap.get? b = some { cls:=.type "tuple",data:=.seq #[y0,y1,y2] n2 })
    (h0 : SeqAt.EqAt A.in1 s x0 y0 true) (h1 : SeqAt.EqAt A.in1 s x1 y1 true) (h2 : SeqAt.EqAt A.in1 s x2 y2 true) : SeqAt.RcAt A s (.ref l) (.ref b) true:=fun prog w E Q h=>by
  have ty : Looks (model prog w) s.heap (typeOf (.ref l)) (.ref 135):=(Looks.ld hl).andThen .now
  have hi' : Looks (model prog w) s.heap (isInstance (.ref l) (.type "tuple")) true:=ty.andThen (looks_mroIn X hm)
  have hbT : s.TypeIs (.ref b) "tuple" := ⟨_,hb,rfl⟩
  have LE:=looks_findIn (M:=model prog w) X he
  have ho : oneThing? .Eq (.ref l) (.ref b) = none:=rfl
  rcases hi : cmpInfo CmpOp.Eq with ⟨sym,f,r⟩
  rw [hi] at LE
  simp only [richCompare,hi,ho]
  try with_reducible refine wpAny_holding ?_
  refine wpAny_bind (wpAny_cRoomFor_or (.inr hu) ?_)
  refine wpAny_bind (ty.here (wpAny_bind (wpAny_typeOf hbT ?_)))
  simp only [show (Value.ref 135 != Value.type "tuple") = true from by decide,if_true]
  refine wpAny_bind (wpAny_of_eq hs ?_)
  simp only [Bool.false_eq_true,if_false]
  refine wpAny_bind ?_
  have hcall : wpAny (model prog w) A (call (.builtin "tuple.__eq__") [.ref l,.ref b]) (fun v s'=>v = .bool true∧s' = s) E s:=by
    refine wpAny_call (codeAny_call_builtin slot_tuple_eq.plain entry_tuple_eq (@check_slot (model prog w) _ _ s "tuple.__eq__" "tuple" "__eq__" (.ref l) [.ref b] [] _ (by decide +kernel) (by decide +kernel) hi' (args_tuple_eq _ _) ?_))
    exact mis_tuple_eq hl hb h0 h1 h2 ⟨rfl,rfl⟩
  unfold tryCompare callSpecialIfBound? bindSpecialIfBound? specialOf
  refine wpAny_bind (wpAny_holding (wpAny_bind (wpAny_bind (wpAny_bind (ty.here (LE.here ?_))))))
  have hbd : bindSpecial (.builtin "tuple.__eq__") (.ref l) = pure (.builtin "tuple.__eq__",[.ref l]):=slot_tuple_eq.bind (.ref l)
  simp only [hbd]
  refine wpAny_bind (wpAny_askSetting (wpAny_ite ?_))
  have fin : ∀ {Q' : Option Value→Shared→Prop},Q' (some (.bool true)) s→wpAny (model prog w) A (call (.builtin "tuple.__eq__") ([.ref l] ++ [.ref b]) >>= fun v=>pure (some v)) Q' E s:=fun q =>
    wpAny_bind (wpAny_mono hcall (fun v s' ⟨e1,e2⟩=>wpAny_pure (by subst e1 e2; exact q)) fun _ _ h'=>h')
  split
  · exact wpAny_bind (wpAny_pure (wpAny_pure (fin (wpAny_pure (wpAny_pure h)))))
  · exact wpAny_tryCatch (wpAny_bind (wpAny_pure (wpAny_pure (fin (wpAny_pure (wpAny_pure h))))))
end
end Mine
namespace Mine
open PySem PySem.W PyProof.Rows PySem.Calls
section
variable {prog : Program} {w : World} {A : Around} {E : Value→Shared→Prop} {s : Shared} {K : Frag} {x C : Addr} {ox : Obj} {od : Option Obj} {name : Str} {expr : Bool} {Q : Value→Shared→Prop}
theorem get_bindT {g a : Value} (X : K.In s.heap) (I : InstAt s.heap x ox C od) (hga : findIn K (.ref C) "__getattribute__" = some (some (.builtin "tuple.__getattribute__"))) (hm : mroIn K C (.type "tuple") = some true)
    (hf : findObj K C od name = some (.bind g a)) (hk : findIn K (.ref C) "__getattr__" = some none)
    (h : wpAny (model prog w) A.in1 (call g [a,.ref x,.ref C]) (fun v s'=>wpAny (model prog w) A (handedOut v) Q E s') (fun _ _=>False) { s with toks:=s.toks + 1 }) :
    wpAny (model prog w) A (getAttr (.ref x) name expr) Q E s:=by
  obtain ⟨hh,gg,d,t,os⟩:=s
  have L0:=I.type (M:=model prog w)
  have LG:=looks_findIn (M:=model prog w) X hga
  have LK:=looks_findIn (M:=model prog w) X hk
  have LF:=looks_find (M:=model prog w) X I hf
  have hi' : Looks (model prog w) hh (isInstance (.ref x) (.type "tuple")) true:=L0.andThen (looks_mroIn X hm)
  unfold getAttr getAttrBy
  refine wpAny_bind (wpAny_mkText (wpAny_holding (wpAny_bind (L0.at (wpAny_bind (LG.at ?_))))))
  show wpAny _ _ (getAttrByItsOwn _ _ _ _ _ _) _ _ _
  unfold getAttrByItsOwn
  refine wpAny_bind (m:=typeLookup (.ref C) "__getattr__") (LK.at ?_)
  refine wpAny_bind (wpAny_attempt (wpAny_holding ?_))
  have hcall : callGetattribute (.ref x) (.str name t) (.builtin "tuple.__getattribute__") expr = boundAndCalled (.builtin "tuple.__getattribute__") (.ref x) (.str name t):=by
    unfold callGetattribute
    rw [if_neg]
    intro q
    rw [Bool.and_eq_true] at q
    exact absurd q.2 (by decide)
  rw [hcall]
  unfold boundAndCalled
  have hbd : bindSpecial (.builtin "tuple.__getattribute__") (.ref x) = pure (.builtin "tuple.__getattribute__",[.ref x]):=PySem.F.slot_tuple_getattribute.bind (.ref x)
  rw [hbd]
  refine wpAny_bind (wpAny_pure ?_)
  refine wpAny_call (codeAny_call_builtin PySem.F.slot_tuple_getattribute.plain am_entry_tuple_getattribute (@check_slot (model prog w) _ _ _ "tuple.__getattribute__" "tuple" "__getattribute__" (.ref x) [.str name t] [] _ (by decide +kernel) (by decide +kernel) hi' (PySem.F.args_tuple_getattribute_2 _ _) ?_))
  unfold Builtin.«object.__getattribute__»
  refine wpAny_bind (wpAny_pure ?_)
  refine wpAny_bind (wpAny_pure (wpAny_bind (L0.at (wpAny_bind (LF.at ?_)))))
  show wpAny _ _ (holding [a] (call g [a,.ref x,.ref C]) >>= ret) _ _ _
  exact wpAny_bind (wpAny_holding (wpAny_mono h (fun v s' z=>wpAny_pure z) fun _ _ z=>z.elim))
end
end Mine
namespace Mine
open PySem PySem.W PyProof.Rows PySem.Calls
structure MisE (K : Frag) : Prop where
  eq : findIn K (.ref 135) (cmpInfo .Eq).2.1 = some (some (.builtin "tuple.__eq__"))
  tup : mroIn K 135 (.type "tuple") = some true
  sub : isSubtype (.type "tuple") (.ref 135) = pure false
section
variable {A : Around} {s : Shared} {K : Frag} {mt : List Addr} {v u : Value}
theorem int_at (i : Int) (t t' : Tok) : SeqAt.EqAt A s (.int i t) (.int i t') true:=by
  have z:=SeqAt.EqAt.int_int (A:=A) (s:=s) i t i t'
  simpa using z
theorem one_at {g : Int} (hu : A.units < cLine) (r1 : Rp s.heap mt v (one g)) (r2 : Rp s.heap mt u (one g)) : SeqAt.EqAt A s v u true:=by
  refine e3a2 (one_inv r1) fun a t n zr141 ha=>?_
  subst zr141
  refine e3a2 (one_inv r2) fun b t' n' zr142 hb=>?_
  subst zr142
  by_cases e : a = b
  · subst e; exact SeqAt.EqAt.same _
  · refine SeqAt.EqAt.of_refs e ?_
    have z:=SeqAt.RcAt.lists (A:=A) (s:=s) (l:=a) (b:=b) (items:=#[.int g t]) (items2:=#[.int g t']) (e:=fun _=>true) ⟨_,ha,rfl,_,rfl⟩ ⟨_,hb,rfl,_,rfl⟩ rfl hu (fun j h1 h2=>by
      have hj : j = 0:=by simp at h1; omega
      subst hj
      exact int_at g t t')
    simpa using z
theorem encM_inv {x : Int × Int × Int} (r : Rp s.heap mt v (encM x)) : ∃ a b t t' n,v = .ref a∧s.heap.get? a = some { cls:=.type "tuple",data:=.seq #[.int x.1 t,.int x.2.1 t',b] n }∧Rp s.heap mt b (one x.2.2):=by
  refine hideG fun zD zhD=>?_
  refine e3a4 r.tuple_inv fun a vs n zr143 _ ho rs=>?_
  subst zr143
  obtain ⟨v1,vs,rfl,r1,rs⟩:=rs.cons_inv
  obtain ⟨v2,vs,rfl,r2,rs⟩:=rs.cons_inv
  obtain ⟨v3,vs,rfl,r3,rs⟩:=rs.cons_inv
  refine zhD ?_
  clear zhD zD
  obtain rfl:=rs.nil_inv
  refine hideG fun zD zhD=>?_
  refine e1a1 r1.int_inv fun t zr144=>?_
  subst zr144
  refine e1a1 r2.int_inv fun t' zr145=>?_
  subst zr145
  refine zhD ?_
  clear zhD zD
  exact ⟨a,v3,t,t',n,rfl,ho,r3⟩
theorem mis_inv' {x : Int × Int × Int} (r : Rp s.heap mt v (mis x)) : ∃ a b t t' n dd,v = .ref a∧s.heap.get? a = some { cls:=.ref 135,dict:=some dd,data:=.seq #[.int x.1 t,.int x.2.1 t',b] n }∧s.heap.get? dd = some { cls:=.type "dict",data:=.dict #[] }∧Rp s.heap mt b (one x.2.2):=by
  refine hideG fun zD zhD=>?_
  refine e4a5 r.mis_inv fun a vs n dd zr146 _ ho hd rs=>?_
  subst zr146
  obtain ⟨v1,vs,rfl,r1,rs⟩:=rs.cons_inv
  obtain ⟨v2,vs,rfl,r2,rs⟩:=rs.cons_inv
  obtain ⟨v3,vs,rfl,r3,rs⟩:=rs.cons_inv
  refine zhD ?_
  clear zhD zD
  obtain rfl:=rs.nil_inv
  refine hideG fun zD zhD=>?_
  refine e1a1 r1.int_inv fun t zr147=>?_
  subst zr147
  refine e1a1 r2.int_inv fun t' zr148=>?_
  subst zr148
  refine zhD ?_
  clear zhD zD
  exact ⟨a,v3,t,t',n,dd,rfl,ho,hd,r3⟩
theorem mis_at {x : Int × Int × Int} (H : MisE K) (X : K.In s.heap) (hu : A.units + 5 < cLine) (r1 : Rp s.heap mt v (mis x)) (r2 : Rp s.heap mt u (encM x)) : SeqAt.EqAt A s v u true:=by
  refine hideG fun zD zhD=>?_
  refine e6a4 (mis_inv' r1) fun a b t t' n dd zr149 ha _ hb=>?_
  subst zr149
  refine e5a3 (encM_inv r2) fun c d q q' n' zr150 hc hd=>?_
  subst zr150
  refine zhD ?_
  clear zhD zD
  have hne : a ≠ c:=fun e=>by subst e; rw [ha] at hc; simp at hc
  exact SeqAt.EqAt.of_refs hne (mis_rc X H.eq H.tup H.sub (by lia) ha hc (int_at _ _ _) (int_at _ _ _) (one_at (by show A.units + 1 < cLine; lia) hb hd))
theorem encM_at {x : Int × Int × Int} (hu : A.units + 5 < cLine) (r1 : Rp s.heap mt v (encM x)) (r2 : Rp s.heap mt u (encM x)) : SeqAt.EqAt A s v u true:=by
  refine e5a3 (encM_inv r1) fun a b t t' n zr151 ha hb=>?_
  subst zr151
  refine e5a3 (encM_inv r2) fun c d q q' n' zr152 hc hd=>?_
  subst zr152
  by_cases e : a = c
  · subst e; exact SeqAt.EqAt.same _
  refine SeqAt.EqAt.of_refs e ?_
  have z:=SeqAt.RcAt.tuples (A:=A) (s:=s) (l:=a) (b:=c) (items:=#[.int x.1 t,.int x.2.1 t',b]) (items2:=#[.int x.1 q,.int x.2.1 q',d]) (e:=fun _=>true) ⟨_,ha,rfl,_,rfl⟩ ⟨_,hc,rfl,_,rfl⟩ (by lia) (fun j h1 h2=>by
    have hj : j = 0 ∨ j = 1 ∨ j = 2:=by simp at h1; lia
    rcases hj with rfl | rfl | rfl
    · exact int_at _ _ _
    · exact int_at _ _ _
    · exact one_at (by show A.units + 1 < cLine; lia) hb hd)
  have e3 : ((List.range 3).all fun _=>true) = true:=by decide
  simpa [e3] using z
theorem lists_at {a b : Addr} {n n' : Nat} {vs us : List Value} {α : Type} {l : List α} {f g : α→PyData} (ha : s.heap.get? a = some { cls:=.type "list",data:=.seq vs.toArray n }) (hb : s.heap.get? b = some { cls:=.type "list",data:=.seq us.toArray n' })
    (r1 : RpA s.heap mt vs (l.map f)) (r2 : RpA s.heap mt us (l.map g)) (hu : A.units < cLine) (he : ∀ x ∈ l,∀ v u,Rp s.heap mt v (f x)→Rp s.heap mt u (g x)→SeqAt.EqAt A.in1 s v u true) : SeqAt.RcAt A s (.ref a) (.ref b) true:=by
  have l1 : vs.length = l.length:=by simpa using r1.length
  have l2 : us.length = l.length:=by simpa using r2.length
  have z:=SeqAt.RcAt.lists (A:=A) (s:=s) (l:=a) (b:=b) (items:=vs.toArray) (items2:=us.toArray) (e:=fun _=>true) ⟨_,ha,rfl,_,rfl⟩ ⟨_,hb,rfl,_,rfl⟩ (by simp [l1,l2]) hu (fun j h1 h2=>by
    have hj : j < l.length:=by simp at h1; lia
    have e1 : (l.map f)[j]? = some (f l[j]):=by rw [List.getElem?_map,List.getElem?_eq_getElem hj]; rfl
    have e2 : (l.map g)[j]? = some (g l[j]):=by rw [List.getElem?_map,List.getElem?_eq_getElem hj]; rfl
    refine e1a2 (r1.get e1) fun v hv rv=>?_
    refine e1a2 (r2.get e2) fun u hu' ru=>?_
    have f1 : vs.toArray[j] = v:=by
      have:=(List.getElem?_eq_some_iff.mp hv).2; simpa using this
    have f2 : us.toArray[j] = u:=by
      have:=(List.getElem?_eq_some_iff.mp hu').2; simpa using this
    rw [f1,f2]
    exact he _ (List.getElem_mem hj) v u rv ru)
  have e3 : ∀ k : Nat,((List.range k).all fun _=>true) = true:=fun k=>List.all_eq_true.mpr fun _ _=>rfl
  rw [e3] at z
  exact z
end
section
variable {prog : Program} {w : World} {K : Frag} {mg mb : Str→Option Value} {A : Around} {env : Env} {ρ : List (Str × PyData)}
theorem pe_eqL {l r : Expr} {α : Type} {xs : List α} {f g : α→PyData} (pos : Pos) (hA : Aok 0 A) (hl : PE prog w K mg mb A env ρ l (.list (xs.map f))) (hr : PE prog w K mg mb A env ρ r (.list (xs.map g)))
    (he : ∀ (s : Shared) (mt : List Addr),Gl K mg mb s.heap→∀ x ∈ xs,∀ v u,Rp s.heap mt v (f x)→Rp s.heap mt u (g x)→SeqAt.EqAt A.in1 s v u true) (hm : behindInMarks .Eq r = false:=by with_unfolding_all rfl) :
    PE prog w K mg mb A env ρ (.Compare l [.Eq] [r] pos) (.bool true):=fun E s mt S =>
  wpAny_Compare1 (pe_two S hl hr fun x y s' k S' rx ry=>by
    refine e2a4 rx.list_inv fun a vs zr153 _ zs154 r1=>?_
    subst zr153
    refine e1a1 zs154 fun n ha=>?_
    refine e2a4 ry.list_inv fun b us zr155 _ zs156 r2=>?_
    subst zr155
    refine e1a1 zs156 fun n' hb=>?_
    exact lists_at ha hb r1 r2 (by have:=hA.un; lia) (fun x hx v u=>he s' mt S'.gl x hx v u) prog w _ _ ⟨k,.bool _⟩) hm
theorem pe_and {x y : Expr} (pos : Pos) {b : Bool} (h1 : PE prog w K mg mb A env ρ x (.bool true)) (h2 : PE prog w K mg mb A env ρ y (.bool b)) : PE prog w K mg mb A env ρ (.BoolOp .And [x,y] pos) (.bool b):=fun E s mt S =>
  BoolOp_and (wpAny_mono (h1 E s mt S) (fun v s₁ ⟨k1,r1⟩=>by
    obtain rfl:=r1.bool_inv
    refine wpAny_truthy_bool ?_
    simp only [if_true]
    exact BoolOp_one (wpAny_mono (h2 E s₁ mt (S.keeps k1)) (fun v s₂ ⟨k2,r2⟩=>⟨Keeps.trans' k1 k2,r2⟩) fun _ _ e=>e)) fun _ _ e=>e)
theorem pe_mis {x name : Str} {p pos : Pos} {k : Nat} {gk : Addr} {y : Int × Int × Int} {d : PyData} (H : MisK prog w K name k gk) (N : Nm mg mb) (hA : Aok 1 A) (hd : A.depth ≤ 800) (hu : A.units ≤ 900) (hx : ρ.lookup x = some (mis y))
    (hk : ([.int y.1,.int y.2.1,one y.2.2] : List PyData)[k]? = some d)
    (he : eval (.Attribute (.Name x p) name pos) env = (do
      let o ← eval (.Name x p) env
      standAt pos.atName
      let r ← holding [o] (getAttr o name true)
      letTemporaryGo (.Name x p) o r
      pure r):=by rfl)
    (hdb : (x == ("__debug__" : Str)) = false:=by decide) : PE prog w K mg mb A env ρ (.Attribute (.Name x p) name pos) d:=fun E s mt S=>by
  refine hideG fun zD zhD=>?_
  refine e1a2 (S.vars x _ hx) fun v hv hr=>?_
  refine e4a5 hr.mis_inv fun a vs n dd zr157 _ ha hdd rs=>?_
  subst zr157
  refine zhD ?_
  clear zhD zD
  refine Attribute_Name_ (wpAny_Name (hv.load ?_) hdb) he
  refine hideG fun zD zhD=>?_
  refine e1a2 (rs.get hk) fun u hu' ru=>?_
  refine zhD ?_
  clear zhD zD
  have hvl : vs.length = 3:=rs.length
  refine get_bindT S.gl.k ⟨ha,rfl,rfl,hdd⟩ H.ga H.tup H.fnd H.gm ?_
  refine getter_call (s:={ s with toks:=s.toks + 1 }) (A:=A.in1) H N ⟨hA.hd,hA.dp,by have:=hA.un; show A.units + 1 + 100 * 1 + 1000 < cLine; simp only [cLine] at *; lia⟩ hd (by show A.units + 1 ≤ 1000; lia) S.gl ha (x:=u) (by simpa using hu') (by simp [hvl]) fun s' k'=>?_
  have hin : handedIn u = true:=by
    have hk3 : k = 0 ∨ k = 1 ∨ k = 2:=by
      have:=(List.getElem?_eq_some_iff.mp hk).1
      simp at this; lia
    rcases hk3 with rfl | rfl | rfl
    · simp at hk; subst hk; obtain ⟨t,rfl⟩:=ru.int_inv; rfl
    · simp at hk; subst hk; obtain ⟨t,rfl⟩:=ru.int_inv; rfl
    · simp at hk; subst hk; obtain ⟨_,_,_,rfl,_⟩:=one_inv ru; rfl
  rw [handedOut_of hin]
  have kk:=Keeps.trans' (Keeps.tok (s.toks + 1)) k'
  exact wpAny_pure ⟨kk,ru.ext (Keeps.ext kk)⟩
end
end Mine
namespace Mine
open PySem PySem.W PyProof.Rows PySem.Calls
noncomputable def fdRight : FuncData:=fdS (topAt 19) "_law_right" "_law_right" (.str "law_ox0192_01" 595) (.ref 301) .none .none
structure RightK (prog : Program) (w : World) (K : Frag) (mg : Str→Option Value) : Prop where
  nmc : NmC mg K
  mn : MisNew prog w K
  me : MisE K
  g0 : ∃ gk,MisK prog w K "actual" 0 gk
  g1 : ∃ gk,MisK prog w K "expected" 1 gk
  g2 : ∃ gk,MisK prog w K "value" 2 gk
  cnt : ∃ doc,FnAt K 145 (fdCount doc)
  due : FnAt K 297 fdDue
  ncnt : mg "_count_diff_all_purpose" = some (.ref 145)
  ndue : mg "_law_due" = some (.ref 297)
theorem dueF_len (f g : List Int) : (dueF f g).length ≤ (f ++ g).length:=by
  rw [← dueN_all]; exact dueN_len f g _
theorem mis_inj : ∀ x y,mis x = mis y→x = y:=by
  rintro ⟨a,b,c⟩ ⟨a',b',c'⟩ h
  simp only [mis,one] at h
  injection h with h
  injection h with h1 h
  refine e0a2 (Prod.mk.inj h1) fun h1 _=>?_
  injection h1 with h1
  injection h1 with e1 h1
  injection h1 with e2 h1
  injection h1 with e3
  injection e1 with e1; injection e2 with e2
  injection e3 with e3
  injection e3 with e3
  injection e3 with e3
  subst e1 e2 e3; rfl
section
variable {prog : Program} {w : World} {K : Frag} {mg mb : Str→Option Value} {A : Around}
set_option maxHeartbeats 4000000 in
theorem cc_right (H : FnAt K 302 fdRight) (N : Nm mg mb) (R : RightK prog w K mg) (hA : Aok 4 A) (hd : A.depth ≤ 700) (hu : A.units ≤ 800) (f g : List Int) (hf : f.length ≤ 100) (hg : g.length ≤ 100) :
    CC prog w K mg mb A (.ref 302) [.list (f.map one),.list (g.map one)] (.bool true):=by
  refine cc_def (fd:=fdRight) (body:=bodyOf (topAt 19)) (["first","second"] : List Str) hA (o:={ cls:=.type "function",data:=.func fdRight }) H.1 rfl H.2 rfl rfl (by decide)
    (fun vs h=>by match vs,h with | [a,b],_=>kernel_rfl) (by decide +kernel) ?_
  intro s mt s₁ hex F
  have hA1:=hA.deeper (callEnvC fdRight s.heap.objs.size 302)
  have hd1 : (A.deeper (callEnvC fdRight s.heap.objs.size 302)).depth ≤ 701:=by show A.depth + 1 ≤ 701; lia
  have hu1 : (A.deeper (callEnvC fdRight s.heap.objs.size 302)).units ≤ 803:=by show A.units + 3 ≤ 803; lia
  generalize A.deeper (callEnvC fdRight s.heap.objs.size 302) = A' at hA1 hd1 hu1 ⊢
  generalize hE : callEnvC fdRight s.heap.objs.size 302 = env at F ⊢
  have kd : ∀ x,env.kindOf x = (scopeOf (topAt 19)).names.lookup x:=fun x=>by rw [← hE]; rfl
  obtain ⟨doc,hcnt⟩:=R.cnt
  have hb:=dueF_len f g
  rw [List.length_append] at hb
  refine ex_assign (d:=.list ((dueF f g).map mis)) F (.inl (by rw [kd]; kernel_rfl)) (pe_call_f _ _ (by rw [kd]; kernel_rfl) R.ncnt hcnt.1 rfl (cc_countdiff hcnt N R.nmc R.mn (hA1.le (by decide)) (by lia) (by lia) f g hf hg)
    (.cons (pe_name _ rfl) (fun _=>rfl) (.cons (pe_name _ rfl) (fun _=>rfl) .nil))) (fun s₂ F₂ _=>?_) (by kernel_rfl)
  refine ex_assign (d:=.list ((dueF f g).map encM)) F₂ (.inl (by rw [kd]; kernel_rfl)) (pe_call_f _ _ (by rw [kd]; kernel_rfl) R.ndue R.due.1 rfl (cc_due R.due N (hA1.le (by decide)) f g hf hg)
    (.cons (pe_name _ rfl) (fun _=>rfl) (.cons (pe_name _ rfl) (fun _=>rfl) .nil))) (fun s₃ F₃ _=>?_) (by kernel_rfl)
  refine ex_ret (d:=.bool true) F₃ ?_ fun v s'' k r=>⟨v,rfl,Keeps.trans' F₃.keep k,r.hide fun b hb=>.inl (List.mem_append.mpr (.inr hb))⟩
  have hA0 : Aok 0 A':=hA1.le (by decide)
  have hun:=hA1.un
  refine pe_and _ (pe_eqL _ hA0 (pe_name _ rfl) (pe_name _ rfl) fun s' mt' G x _ v u r1 r2=>mis_at R.me G.k (by show A'.units + 1 + 5 < cLine; lia) r1 r2) ?_
  refine pe_eqL (xs:=dueF f g) (f:=encM) (g:=encM) _ hA0 ?_ (pe_name _ rfl) fun s' mt' G x _ v u r1 r2=>encM_at (by show A'.units + 1 + 5 < cLine; lia) r1 r2
  have e : (dueF f g).map encM = ((dueF f g).filter fun _=>true).map encM:=by rw [List.filter_eq_self.mpr (fun _ _=>rfl)]
  rw [e]
  refine pe_compT [] (dueF f g) mis mis_inj (fun x=>[("one",mis x)]) [] (fun _=>true) encM (src_list hA1.hd (pe_name _ rfl)) (by rw [← hE]; kernel_rfl) (by decide +kernel) rfl (by decide +kernel) trivial ?_ ?_ ?_ (by rw [sizeLine_eq]; lia)
  · intro C x _
    exact tgt_name (by kernel_rfl) rfl
  · intro C x _; exact rfl
  · intro C x _ _
    obtain ⟨g0,G0⟩:=R.g0
    obtain ⟨g1,G1⟩:=R.g1
    obtain ⟨g2,G2⟩:=R.g2
    have h1:=hA1.le (k:=1) (by decide)
    exact pe_tuple _ _ (.cons (pe_mis G0 N h1 (by lia) (by lia) (y:=x) rfl rfl) (fun _=>rfl) (.cons (pe_mis G1 N h1 (by lia) (by lia) (y:=x) rfl rfl) (fun _=>rfl) (.cons (pe_mis G2 N h1 (by lia) (by lia) (y:=x) rfl rfl) (fun _=>rfl) .nil))) (by show 3 ≤ sizeLine; decide)
end
end Mine
namespace Mine
open PySem PySem.W PyProof.Rows PySem.Calls PySem.Builtin PySem.Builtin.ObjectAttr PySem.Builtin.Getset_descriptor
theorem putL_len (name : Str) (hsh : Int) (key v : Value) : ∀ {es : List DictEntry},es.any (fun e=>e.key.isStr name) = true→(putL name hsh key v es).length = es.length
  | [],h=>by simp at h
  | e :: r,h=>by
    unfold putL
    by_cases q : e.key.isStr name = true
    · rw [if_pos q]; rfl
    · rw [if_neg q,List.length_cons,List.length_cons,putL_len name hsh key v (es:=r) (by simpa [q] using h)]
section
variable {prog : Program} {w : World} {K : Frag} {A : Around} {s : Shared} {E : Value→Shared→Prop}
theorem inst_setG {x C D : Addr} {ox : Obj} {es : List DictEntry} {n : Nat} {name : Str} {v : Value} {Q : Unit→Shared→Prop} (X : K.In s.heap) (I : InstAt s.heap x ox C (some (dictOf es n))) (hd : ox.dict = some D)
    (hs : findIn K (.ref C) "__setattr__" = some (some (.builtin "object.__setattr__"))) (hp : plainOver K C = true) (ht : takerIn K C name = some none) (hh : (clsIn K C).any (·.hasDict) = true) (hre : aRefKeyMayBeTheName name es.toArray = false) (hlen : ∀ key,(putL name (PyData.keyHash w.params name) key v es).length ≤ 1001)
    (h : ∀ h' tk (t : Tok),h'.get? D = some (dictOf (putL name (PyData.keyHash w.params name) (.str name t) v es) (putN name es n))→Heap.SameBut D s.heap h'→Q () { s with heap:=h',toks:=tk }) : wpAny (model prog w) A (setAttr (.ref x) name v) Q E s:=by
  refine set_plain X I hs ?_
  obtain ⟨hh0,g0,d0,t0,os0⟩:=s
  dsimp only at X I h
  refine osa_open (s:=⟨hh0,g0,d0,t0 + 1,os0⟩) X I hp ht fun b=>?_
  refine e1a2 (any_some hh) fun cd hc hdc=>?_
  have hD : hh0.get? D = some (dictOf es n):=by have:=I.dict; rw [hd] at this; exact this
  have hx:=I.at_
  have hcl:=I.cls
  have hn:=I.no
  obtain ⟨oc,odi,oda,osl⟩:=ox
  dsimp only at hcl hd
  subst hcl hd
  unfold storeInOwnDict
  refine wpAny_bind (wpAny_pure ?_)
  rw [if_neg (by intro q; cases q)]
  show wpAny _ _ (ownDictForStores (.ref x) >>= _) _ _ _
  unfold ownDictForStores instanceDict
  refine wpAny_bind (wpAny_bind (wpAny_loadPart hx (wpAny_bind ((looks_clsIn (M:=model prog w) X hc).at ?_))))
  rw [hdc]
  refine wpAny_pure (a:=some D) ?_
  show wpAny _ _ (storeInDict D (.str name _) name v) _ _ _
  unfold storeInDict
  refine wpAny_bind (wpAny_pure (wpAny_bind ?_))
  unfold nsSet
  refine wpAny_bind (wpAny_bind (wpAny_askSetting (wpAny_pure (wpAny_bind (wpAny_mkText (wpAny_bind (wpAny_loadPart hD ?_)))))))
  show wpAny _ _ (if aRefKeyMayBeTheName name es.toArray = true then _ else _) _ _ _
  rw [hre,if_neg (by decide)]
  refine wpAny_updatePart hD ?_
  have hput:=putName_dict name (PyData.keyHash w.params name) (.str name (t0 + 1)) v es n
  have hnf : (Obj.putName name (PyData.keyHash w.params name) (.str name (t0 + 1)) v (dictOf es n)).isFreed = false:=by rw [hput]; rfl
  have hD':=Heap.get?_update_self (Obj.putName name (PyData.keyHash w.params name) (.str name (t0 + 1)) v) hD hnf
  refine wpAny_bind (wpAny_lookBehind hD' ?_ ?_)
  · rw [hput]
    exact pastItsLine_dict (by rw [List.size_toArray,sizeLine_eq]; have:=hlen (.str name (t0 + 1)); lia)
  · refine wpAny_pure (h _ _ _ (by rw [← hput]; exact hD') ?_)
    exact Heap.SameBut.update ..
theorem inst_set {x C D : Addr} {ox : Obj} {es : List DictEntry} {n : Nat} {name : Str} {v : Value} {Q : Unit→Shared→Prop} (X : K.In s.heap) (I : InstAt s.heap x ox C (some (dictOf es n))) (hd : ox.dict = some D)
    (hs : findIn K (.ref C) "__setattr__" = some (some (.builtin "object.__setattr__"))) (hp : plainOver K C = true) (ht : takerIn K C name = some none) (hh : (clsIn K C).any (·.hasDict) = true) (hl : es.any (fun e=>e.key.isStr name) = true) (hz : (es.length : Nat) ≤ 1000)
    (h : ∀ h' tk key,h'.get? D = some (dictOf (putL name (PyData.keyHash w.params name) key v es) (putN name es n))→Heap.SameBut D s.heap h'→Q () { s with heap:=h',toks:=tk }) : wpAny (model prog w) A (setAttr (.ref x) name v) Q E s :=
  inst_setG X I hd hs hp ht hh (by
    rw [aRefKeyMayBeTheName_at]
    have : es.toArray.any (fun e=>e.key.isStr name) = true:=by simpa using hl
    rw [this]; rfl) (fun key=>by rw [putL_len name _ key v hl]; lia) fun h' tk t=>h h' tk _
theorem slot_put {x C p : Addr} {ox : Obj} {od : Option Obj} {name : Str} {v : Value} {i : Nat} {Q : Unit→Shared→Prop} (X : K.In s.heap) (I : InstAt s.heap x ox C od)
    (hs : findIn K (.ref C) "__setattr__" = some (some (.builtin "object.__setattr__"))) (hp : plainOver K C = true) (ht : takerIn K C name = some (some (.ref p))) (hT : typeIn K (.ref p) = some (.type "member_descriptor"))
    (hsl : slotIn K p C = some i) (hi : i < 1000) (hf : ({ ox with slots:=(ox.slots ++ Array.replicate (i + 1 - ox.slots.size) none).setIfInBounds i (some v) } : Obj).isFreed = false)
    (h : ∀ h' tk,h'.get? x = some { ox with slots:=(ox.slots ++ Array.replicate (i + 1 - ox.slots.size) none).setIfInBounds i (some v) }→Heap.SameBut x s.heap h'→Q () { s with heap:=h',toks:=tk }) : wpAny (model prog w) A (setAttr (.ref x) name v) Q E s:=by
  refine set_plain X I hs ?_
  refine hideG fun zD zhD=>?_
  obtain ⟨hh0,g0,d0,t0,os0⟩:=s
  refine zhD ?_
  clear zhD zD
  dsimp only at X I h
  refine osa_descr (s:=⟨hh0,g0,d0,t0 + 1,os0⟩) KF.slot_mset X I hp ht hT ?_
  refine hideG fun zD zhD=>?_
  obtain ⟨n,tn,owner,behind,tb,d,sl,cd,ho,hc,hm,hb,rfl⟩:=slot_of X hsl
  refine zhD ?_
  clear zhD zD
  have L0:=I.type (M:=model prog w)
  have L1:=looks_mroIn (M:=model prog w) X hm
  have L2 : Looks (model prog w) hh0 (Slots.slotNamesOf (.ref C)) cd.slotNames:=(looks_clsIn X hc).andThen .now
  have hx:=I.at_
  have f0:=looks_field (M:=model prog w) ho 0 (v:=.str n tn) rfl
  have f1:=looks_field (M:=model prog w) ho 1 (v:=owner) rfl
  have f3:=looks_field (M:=model prog w) ho 3 (v:=.builtin "proto.slot#set") rfl
  have f4:=looks_field (M:=model prog w) ho 4 (v:=.int behind tb) rfl
  have f5 : Looks (model prog w) hh0 (descrItself (.ref p)) [.ref p]:=((Looks.ld (part:=none) ho).andThen .now).andThen (Looks.of_pure (by kernel_rfl))
  refine codeAny_call_builtin KF.slot_mset.plain KF.entry_mset (KF.slot_mset.check _ _ _ _ _ _ _ _ ⟨_,ho,rfl⟩ (KF.args_mset _ _ _) ?_)
  unfold Builtin.«member_descriptor.__set__» descrSet descrStoreThrough descrCheckInstance descrNameAndClass isInstance
  repeat lk
  refine ⟨Code.quiet_builtin _ (by decide +kernel),codeAny_builtin KF.entry_slotset ?_⟩
  unfold Builtin.«proto.slot#set» Slots.target
  repeat lk
  rw [if_neg hb]
  refine wpAny_pure (wpAny_bind ?_)
  unfold setSlotAt
  dsimp only
  rw [if_neg (by rw [sizeLine_eq]; lia)]
  exact wpAny_updatePart hx (wpAny_pure (h _ _ (Heap.get?_update_self _ hx hf) (Heap.SameBut.update ..)))
theorem slot_read {x C p : Addr} {ox : Obj} {od : Option Obj} {name : Str} {v : Value} {i : Nat} {Q : Value→Shared→Prop} (X : K.In s.heap) (I : InstAt s.heap x ox C od)
    (hga : findIn K (.ref C) "__getattribute__" = some (some (.builtin "object.__getattribute__"))) (hgm : findIn K (.ref C) "__getattr__" = some none)
    (hf : findObj K C od name = some (.bind (.builtin "member_descriptor.__get__") (.ref p))) (hp : slotIn K p C = some i) (hv : (ox.slots[i]?).join = some v) (hh : handedIn v = true)
    (h : Q v { s with toks:=s.toks + 1 }) : wpAny (model prog w) A (getAttr (.ref x) name true) Q E s:=by
  refine get_bind X I hga hf hgm ?_
  refine wpAny_call (slot_get (s:={ s with toks:=s.toks + 1 }) X I hp hv ?_)
  show wpAny _ _ (handedOut v) _ _ _
  rw [handedOut_of hh]
  exact wpAny_pure h
end
end Mine
namespace Mine
open PySem PySem.W PyProof.Rows PySem.Calls
structure SoAd where
  S : Addr
  D : Addr
  N : Addr
  R : Addr
  I : Nat→Addr
  L : Nat→Addr
abbrev emptyD : Obj:={ cls:=.type "dict",data:=.dict #[] }
noncomputable def nodeObj (L dx : Addr) (np nd : Value) : Obj:={ cls:=.ref 164,dict:=some dx,data:=.plain,slots:=#[some nd,some np,some (.ref L)] }
structure SoTk where
  h1 : Int
  h2 : Int
  h3 : Int
  h4 : Int
  t1 : Tok
  t2 : Tok
  t3 : Tok
  t4 : Tok
  ep : Nat
noncomputable def soEs (x : SoTk) (N : Addr) (rv po fi : Value) : List DictEntry :=
  [⟨x.h1,.str "_node2info" x.t1,.ref N⟩,⟨x.h2,.str "_ready_nodes" x.t2,rv⟩,⟨x.h3,.str "_npassedout" x.t3,po⟩,⟨x.h4,.str "_nfinished" x.t4,fi⟩]
abbrev soDict (x : SoTk) (N : Addr) (rv po fi : Value) : Obj:=dictOf (soEs x N rv po fi) x.ep
structure SlotK (K : Frag) (name : Str) (i : Nat) (p : Addr) : Prop where
  fnd : findObj K 164 (some emptyD) name = some (.bind (.builtin "member_descriptor.__get__") (.ref p))
  sl : slotIn K p 164 = some i
  tk : takerIn K 164 name = some (some (.ref p))
  ty : typeIn K (.ref p) = some (.type "member_descriptor")
structure SoK (K : Frag) : Prop where
  ga : findIn K (.ref 261) "__getattribute__" = some (some (.builtin "object.__getattribute__"))
  gm : findIn K (.ref 261) "__getattr__" = some none
  sa : findIn K (.ref 261) "__setattr__" = some (some (.builtin "object.__setattr__"))
  po : plainOver K 261 = true
  hd : ∃ cd,clsIn K 261 = some cd∧cd.hasDict = true
  n1 : findIn K (.ref 261) "_node2info" = some none
  n2 : findIn K (.ref 261) "_ready_nodes" = some none
  n3 : findIn K (.ref 261) "_npassedout" = some none
  n4 : findIn K (.ref 261) "_nfinished" = some none
  nga : findIn K (.ref 164) "__getattribute__" = some (some (.builtin "object.__getattribute__"))
  ngm : findIn K (.ref 164) "__getattr__" = some none
  nsa : findIn K (.ref 164) "__setattr__" = some (some (.builtin "object.__setattr__"))
  npo : plainOver K 164 = true
  s0 : ∃ p,SlotK K "successors" 2 p
  s1 : ∃ p,SlotK K "npredecessors" 1 p
  s2 : ∃ p,SlotK K "node" 0 p
  sm : ∃ o,K.lookup sysModules = some o
theorem find_val {K : Frag} {C : Addr} {cd : ClassData} {name : Str} {od : Obj} {v : Value} (hc : clsIn K C = some cd) (hd : cd.hasDict = true) (hf : findIn K (.ref C) name = some none) (hl : lookIn name od = some (some v)) : findObj K C (some od) name = some (.value v):=by
  unfold findObj PySem.W.ownOf
  simp [hc,hf,hd,hl]
theorem taker_none {K : Frag} {C : Addr} {name : Str} (hf : findIn K (.ref C) name = some none) : takerIn K C name = some none:=by
  unfold takerIn; rw [hf]; rfl
section
variable {prog : Program} {w : World} {K : Frag} {A : Around} {s : Shared} {E : Value→Shared→Prop} {env : Env} {S D N : Addr} {x : SoTk} {rv po fi : Value}
structure SoS (S D N : Addr) (x : SoTk) (rv po fi : Value) (h : Heap) : Prop where
  i : h.get? S = some { cls:=.ref 261,dict:=some D }
  d : h.get? D = some (soDict x N rv po fi)
theorem SoS.inst {h : Heap} (o : SoS S D N x rv po fi h) : InstAt h S { cls:=.ref 261,dict:=some D } 261 (some (soDict x N rv po fi)):=⟨o.i,rfl,rfl,o.d⟩
theorem so_get {name : Str} {v : Value} {Q : Value→Shared→Prop} (H : SoK K) (X : K.In s.heap) (o : SoS S D N x rv po fi s.heap) (hn : findIn K (.ref 261) name = some none) (hl : getL name (soEs x N rv po fi) = some (some v)) (hh : handedIn v = true)
    (h : Q v { s with toks:=s.toks + 1 }) : wpAny (model prog w) A (getAttr (.ref S) name true) Q E s:=by
  obtain ⟨cd,hc,hd⟩:=H.hd
  exact get_value X o.inst H.ga (find_val hc hd hn hl) hh h
theorem so_attr {nm name : Str} {p pos : Pos} {v : Value} {Q : Value→Shared→Prop} (H : SoK K) (X : K.In s.heap) (hv : Var env s.heap nm (.ref S)) (o : SoS S D N x rv po fi s.heap) (hn : findIn K (.ref 261) name = some none) (hl : getL name (soEs x N rv po fi) = some (some v)) (hh : handedIn v = true)
    (h : Q v { s with toks:=s.toks + 1 })
    (he : eval (.Attribute (.Name nm p) name pos) env = (do
      let o ← eval (.Name nm p) env
      standAt pos.atName
      let r ← holding [o] (getAttr o name true)
      letTemporaryGo (.Name nm p) o r
      pure r):=by rfl)
    (hdb : (nm == ("__debug__" : Str)) = false:=by decide) : wpAny (model prog w) A (eval (.Attribute (.Name nm p) name pos) env) Q E s :=
  Attribute_Name_ (wpAny_Name (hv.load (so_get H X o hn hl hh h)) hdb) he
theorem so_set {name : Str} {v : Value} {es' : List DictEntry} {Q : Unit→Shared→Prop} (H : SoK K) (X : K.In s.heap) (o : SoS S D N x rv po fi s.heap) (hn : findIn K (.ref 261) name = some none)
    (hl : (soEs x N rv po fi).any (fun e=>e.key.isStr name) = true) (hp : ∀ hsh key,putL name hsh key v (soEs x N rv po fi) = es')
    (h : ∀ h' tk,h'.get? D = some (dictOf es' x.ep)→Heap.SameBut D s.heap h'→Q () { s with heap:=h',toks:=tk }) : wpAny (model prog w) A (setAttr (.ref S) name v) Q E s:=by
  obtain ⟨cd,hc,hd⟩:=H.hd
  refine inst_set X o.inst rfl H.sa H.po (taker_none hn) (by rw [hc]; exact hd) hl (by show 4 ≤ 1000; decide) fun h' tk key h1 h2=>h h' tk ?_ h2
  rw [h1,hp]
  unfold putN
  rw [if_pos hl]
theorem put_ready (hsh : Int) (key v : Value) : putL "_ready_nodes" hsh key v (soEs x N rv po fi) = soEs x N v po fi:=by kernel_rfl
theorem put_passed (hsh : Int) (key v : Value) : putL "_npassedout" hsh key v (soEs x N rv po fi) = soEs x N rv v fi:=by kernel_rfl
theorem put_done (hsh : Int) (key v : Value) : putL "_nfinished" hsh key v (soEs x N rv po fi) = soEs x N rv po v:=by kernel_rfl
theorem any_ready : (soEs x N rv po fi).any (fun e=>e.key.isStr "_ready_nodes") = true:=by kernel_rfl
theorem any_passed : (soEs x N rv po fi).any (fun e=>e.key.isStr "_npassedout") = true:=by kernel_rfl
theorem any_done : (soEs x N rv po fi).any (fun e=>e.key.isStr "_nfinished") = true:=by kernel_rfl
theorem get_n2i : getL "_node2info" (soEs x N rv po fi) = some (some (.ref N)):=by kernel_rfl
theorem get_ready : getL "_ready_nodes" (soEs x N rv po fi) = some (some rv):=by kernel_rfl
theorem get_passed : getL "_npassedout" (soEs x N rv po fi) = some (some po):=by kernel_rfl
theorem get_done : getL "_nfinished" (soEs x N rv po fi) = some (some fi):=by kernel_rfl
structure NodeAt (I L : Addr) (np nd : Value) (mt : List Addr) (h : Heap) : Prop where
  at_ : ∃ dx,h.get? I = some (nodeObj L dx np nd)∧(hideAll h mt).get? dx = some emptyD
section
variable {I L : Addr} {np nd : Value} {mt : List Addr}
theorem NodeAt.inst {h : Heap} (o : NodeAt I L np nd mt h) : ∃ dx,InstAt h I (nodeObj L dx np nd) 164 (some emptyD):=let ⟨dx,a,b⟩:=o.at_; ⟨dx,a,rfl,rfl,of_hideAll _ b⟩
theorem NodeAt.move {mt' : List Addr} {h h' : Heap} (o : NodeAt I L np nd mt h) (hI : ∀ ob,h.get? I = some ob→h'.get? I = some ob) (hk : ∀ b ob,b ∉ mt→h.get? b = some ob→h'.get? b = some ob) (hm : ∀ b ∈ mt',b ∈ mt ∨ h.get? b = none) : NodeAt I L np nd mt' h' :=
  let ⟨dx,a,b⟩:=o.at_; ⟨dx,hI _ a,hid_mono hk hm _ _ b⟩
theorem node_get {name : Str} {v : Value} {i : Nat} {Q : Value→Shared→Prop} (H : SoK K) (X : K.In s.heap) (o : NodeAt I L np nd mt s.heap) (hs : ∃ p,SlotK K name i p) (hv : (([some nd,some np,some (.ref L)] : List (Option Value))[i]?).join = some v) (hh : handedIn v = true)
    (h : Q v { s with toks:=s.toks + 1 }) : wpAny (model prog w) A (getAttr (.ref I) name true) Q E s:=by
  obtain ⟨p,hp⟩:=hs
  obtain ⟨dx,hi⟩:=o.inst
  exact slot_read X hi H.nga H.ngm hp.fnd hp.sl (by simpa [nodeObj] using hv) hh h
theorem node_set {v : Value} {Q : Unit→Shared→Prop} (H : SoK K) (X : K.In s.heap) (o : NodeAt I L np nd mt s.heap) (hI : I ∈ mt)
    (h : ∀ h' tk,NodeAt I L v nd mt h'→Heap.SameBut I s.heap h'→Q () { s with heap:=h',toks:=tk }) : wpAny (model prog w) A (setAttr (.ref I) "npredecessors" v) Q E s:=by
  obtain ⟨p,hp⟩:=H.s1
  obtain ⟨dx,a,b⟩:=o.at_
  have hi : InstAt s.heap I (nodeObj L dx np nd) 164 (some emptyD):=⟨a,rfl,rfl,of_hideAll _ b⟩
  refine slot_put X hi H.nsa H.npo hp.tk hp.ty hp.sl (by decide) rfl fun h' tk h1 h2=>h h' tk ⟨dx,?_,?_⟩ h2
  · rw [h1]; rfl
  · obtain ⟨hn,he⟩:=hid_not b
    exact hideAll_get mt (h2.extBut dx _ (fun q=>hn (q ▸ hI)) he) hn
end
end
end Mine
namespace Mine
open PySem PySem.W PyProof.Rows PySem.Calls
noncomputable def nodePairs (I : Nat→Addr) (n : Nat) : List (Int × Value):=(List.range n).map fun k : Nat=>((k : Int),Value.ref (I k))
theorem nodePairs_succ (I : Nat→Addr) (n : Nat) : nodePairs I (n + 1) = nodePairs I n ++ [((n : Int),.ref (I n))]:=by
  unfold nodePairs; rw [List.range_succ,List.map_append]; rfl
theorem nodePairs_at (I : Nat→Addr) : ∀ (n k : Nat),valueAt (nodePairs I n) (k : Int) = if k < n then some (.ref (I k)) else none
  | 0,k=>by simp [nodePairs,valueAt]
  | n + 1,k=>by
    have ih:=nodePairs_at I n k
    rw [nodePairs_succ]
    unfold valueAt at ih ⊢
    rw [List.find?_append]
    by_cases h : k < n
    · rw [if_pos h] at ih
      rw [if_pos (by lia)]
      cases q : List.find? (fun kv=>decide (kv.1 = (k : Int))) (nodePairs I n) with
      | none=>rw [q] at ih; simp at ih
      | some y=>rw [q] at ih; simpa using ih
    · rw [if_neg h] at ih
      have q : List.find? (fun kv=>decide (kv.1 = (k : Int))) (nodePairs I n) = none:=by
        cases q : List.find? (fun kv=>decide (kv.1 = (k : Int))) (nodePairs I n) with
        | none=>rfl
        | some y=>rw [q] at ih; simp at ih
      rw [q]
      by_cases e : k = n
      · subst e; simp
      · have e' : ¬ ((n : Int) = (k : Int)):=by lia
        rw [if_neg (by lia)]
        simp [e']
theorem nodePairs_new (I : Nat→Addr) (n : Nat) (v : Value) : stored (nodePairs I n) (n : Int) v = nodePairs I n ++ [((n : Int),v)]:=by
  have : (nodePairs I n).any (fun kv=>decide (kv.1 = (n : Int))) = false:=by
    unfold nodePairs
    rw [List.any_map,List.any_eq_false]
    intro k hk
    have:=List.mem_range.mp hk
    simp; omega
  unfold stored
  rw [this]; rfl
theorem nodePairs_congr {I J : Nat→Addr} {n : Nat} (h : ∀ k,k < n→I k = J k) : nodePairs I n = nodePairs J n :=
  List.map_congr_left fun k hk=>by rw [h k (List.mem_range.mp hk)]
structure SoA (prog : Program) (w : World) (ad : SoAd) (x : SoTk) (n : Nat) (np : Nat→Int) (su : Nat→List Int) (mt : List Addr) (h : Heap) : Prop where
  s : ∃ p f,SoS ad.S ad.D ad.N x .none (.int 0 p) (.int 0 f) (hideAll h mt)
  d : h.DictOf (intKind prog w) ad.N (nodePairs ad.I n)
  nd : ∀ k,k < n→∃ t t',NodeAt (ad.I k) (ad.L k) (.int (np k) t) (.int (k : Nat) t') mt h
  li : ∀ k,k < n→∃ vs : List Value,h.PlainList (ad.L k) vs.toArray∧IntsAre vs (su k)
  inj : ∀ j k,j < n→k < n→ad.L j = ad.L k→j = k
  lo : (ad.N == sysModules) = false
theorem SoS.hid {S D N : Addr} {x : SoTk} {rv po fi : Value} {h : Heap} {mt : List Addr} (o : SoS S D N x rv po fi (hideAll h mt)) : SoS S D N x rv po fi h:=⟨of_hideAll _ o.i,of_hideAll _ o.d⟩
theorem SoA.move {prog : Program} {w : World} {ad : SoAd} {x : SoTk} {n : Nat} {np : Nat→Int} {su : Nat→List Int} {mt mt' : List Addr} {h h' : Heap} (o : SoA prog w ad x n np su mt h) (hN : ∀ ob,h.get? ad.N = some ob→h'.get? ad.N = some ob)
    (hI : ∀ k,k < n→∀ ob,h.get? (ad.I k) = some ob→h'.get? (ad.I k) = some ob) (hL : ∀ k,k < n→∀ ob,h.get? (ad.L k) = some ob→h'.get? (ad.L k) = some ob)
    (hk : ∀ b ob,b ∉ mt→h.get? b = some ob→h'.get? b = some ob) (hm : ∀ b ∈ mt',b ∈ mt ∨ h.get? b = none) : SoA prog w ad x n np su mt' h' :=
  ⟨let ⟨p,f,a⟩:=o.s; ⟨p,f,hid_mono hk hm _ _ a.i,hid_mono hk hm _ _ a.d⟩,o.d.at hN,fun k hkn=>let ⟨t,t',a⟩:=o.nd k hkn; ⟨t,t',a.move (hI k hkn) hk hm⟩,
    fun k hkn=>let ⟨vs,a,b⟩:=o.li k hkn; ⟨vs,a.at (hL k hkn),b⟩,o.inj,o.lo⟩
theorem SoA.ext {prog : Program} {w : World} {ad : SoAd} {x : SoTk} {n : Nat} {np : Nat→Int} {su : Nat→List Int} {mt : List Addr} {h h' : Heap} (o : SoA prog w ad x n np su mt h) (hk : ∀ b ob,h.get? b = some ob→h'.get? b = some ob) : SoA prog w ad x n np su mt h' :=
  o.move (fun ob=>hk _ ob) (fun _ _ ob=>hk _ ob) (fun _ _ ob=>hk _ ob) (fun b ob _=>hk b ob) fun _ hb=>.inl hb
noncomputable def fdInfo : FuncData:=fdS (methAt 11 2) "_get_nodeinfo" "TopologicalSorter._get_nodeinfo" (.str "cpy313.graphlib" 404) (.ref 203) .none .none
section
variable {prog : Program} {w : World} {K : Frag} {mg mb : Str→Option Value} {A : Around} {s : Shared} {E : Value→Shared→Prop} {ad : SoAd} {x : SoTk} {n : Nat} {np : Nat→Int} {su : Nat→List Int} {mt : List Addr}
theorem dget {env : Env} {o : Expr} {nm : Str} {p apos pos : Pos} {d : Addr} {kvs : List (Int × Value)} {k : Int} {t : Tok} {Q : Value→Shared→Prop} (hd : (d == sysModules) = false) (hm : s.heap.DictOf (intKind prog w) d kvs) (hv : Var env s.heap nm (.int k t))
    (ho : wpAny (model prog w) A (eval o env) (fun v s₁=>v = .ref d∧s₁ = { s with toks:=s.toks + 1 }) E s)
    (h : Q ((valueAt kvs k).getD .none) { s with toks:=s.toks + 1 + 1 }) (hbase : attributeBase o "get" env (eval o env) = eval o env) (hline : (apos.endLine == pos.line) = true) (hdb : (nm == ("__debug__" : Str)) = false) :
    wpAny (model prog w) A (eval (.Call (.Attribute o "get" apos) [.Name nm p] [] pos) env) Q E s:=by
  refine wpAny_Call_method hbase ?_ hline PySem.F.plainAttrs_dict PySem.F.slot_dict_get PySem.F.type_dict_get (wpAny_mono ho (fun v s₁ ⟨e1,e2⟩=>?_) fun _ _ e=>e)
  · rfl
  subst e1 e2
  refine ⟨hm.typeIs,hm.mapOf.noDict,?_⟩
  refine wpAny_dict_get1 (knd:=intKind prog w) hd (wpAny_Name (Var.load (s:={ s with toks:=s.toks + 1 }) hv ?_) hdb)
  exact ⟨k,_,intKind_is prog w k t,hm.mapOf,h⟩
set_option maxHeartbeats 2000000 in
theorem info_old {k : Nat} {t : Tok} {Q : Value→Shared→Prop} (H : FnAt K 204 fdInfo) (SK : SoK K) (hA : Aok 1 A) (G : Gl K mg mb s.heap) (o : SoA prog w ad x n np su mt s.heap) (hk : k < n)
    (h : ∀ s',Keeps s s'→Q (.ref (ad.I k)) s') : wpAny (model prog w) A (call (.ref 204) [.ref ad.S,.int (k : Nat) t]) Q E s:=by
  refine call_defP ["self","node"] (fd:=fdInfo) (body:=bodyOf (methAt 11 2)) (mg:=mg) (mb:=mb) (binds:=[("self",.ref ad.S),("node",.int (k : Nat) t)]) (mt:=[]) (hid:=[]) (by have:=hA.dp; lia) H.1 rfl H.2 rfl G (fun b hb=>hb) (fun b hb=>nomatch hb)
    (by kernel_rfl) rfl (by decide) (by decide +kernel) fun s₂ env k2 he hF hv=>?_
  have F₂:=hF [] (fun y d e=>nomatch e)
  have V1:=hv "self" (.ref ad.S) (.head _)
  have V2:=hv "node" (.int (k : Nat) t) (.tail _ (.head _))
  have kd : ∀ x,env.kindOf x = (scopeOf (methAt 11 2)).names.lookup x:=fun x=>by rw [he]; rfl
  refine genA (A.deeper env) fun A'=>?_
  have o2:=o.ext (Keeps.ext k2)
  refine e2a1 o2.s fun p f os=>?_
  refine wpAny_execs_cons (wpAny_If (wpAny_isTrue_Compare1 (wpAny_NamedExpr (dget (kvs:=nodePairs ad.I n) (k:=(k : Int)) o2.lo o2.d V2 (so_attr SK F₂.sv.gl.k V1 os.hid SK.n1 get_n2i rfl ⟨rfl,rfl⟩) ?_ rfl (by rfl) (by decide))) (by with_unfolding_all rfl)))
  rw [nodePairs_at,if_pos hk]
  have F₃:=F₂.keeps (Keeps.tok (s₂.toks + 1 + 1))
  refine wpAny_assign_Name (F₃.storeV (.inl (by rw [kd]; kernel_rfl)) [] trivial rfl fun s₄ F₄ hv4 k4=>?_)
  refine wpAny_Constant_none (is_none_ne (by intro e; cases e) (wpAny_truthy_bool ?_))
  refine wpAny_execs_nil (wpAny_execs_cons (wpAny_Return_some (wpAny_Name (hv4.load ?_) (by decide))))
  exact h _ F₄.keep
end
end Mine
namespace Mine
open PySem PySem.W PyProof.Rows PySem.Calls
theorem assign_sub {M : Model} {A : Around} {E : Value→Shared→Prop} {s : Shared} {env : Env} {o i : Expr} {pos : Pos} {v : Value} {Q : Unit→Shared→Prop}
    (h : wpAny M A (eval o env) (fun ov s₂=>wpAny M A (eval i env) (fun iv s₃=>wpAny M A (setItem ov iv v) Q E s₃) E s₂) E s) : wpAny M A (assign (.Subscript o i pos) env v) Q E s:=fun Γ p hΓ=>by
  simp only [assign_Subscript,Sem.wp_bind',Sem.wp_holding,Sem.wp_cmd_standAt,Sem.wp_release]
  exact Sem.wp_mono M Γ _ (fun ov p₂ s₂ h₂=>Sem.wp_mono M Γ _ (fun iv _ s₃ h₃=>h₃ Γ _ hΓ) (fun _ _ _ h'=>h') _ _ (h₂ Γ p₂ hΓ)) (fun _ _ _ h'=>h') _ _ (h Γ p hΓ)
noncomputable def NodePost (s : Shared) (Q : Value→Shared→Prop) (k : Int) (t : Tok) : Prop:=∀ (I L dx : Addr) (t0 : Tok) (h : Heap) (tk : Nat),(∀ b o,s.heap.get? b = some o→h.get? b = some o)→s.heap.get? I = none→s.heap.get? L = none→s.heap.get? dx = none →
  h.get? I = some (nodeObj L dx (.int 0 t0) (.int k t))→h.get? L = some { cls:=.type "list",data:=.seq #[] }→h.get? dx = some emptyD→Q (.ref I) ⟨h,s.gens,s.drawn,tk,s.os⟩
noncomputable def NodeNew (prog : Program) (w : World) (K : Frag) : Prop:=∀ (E : Value→Shared→Prop) (s : Shared) (Q : Value→Shared→Prop) (k : Int) (t : Tok),K.In s.heap→NodePost s Q k t→wpAny (model prog w) AX (call (.ref 164) [.int k t]) Q E s
noncomputable def updF {α : Type} (f : Nat→α) (n : Nat) (v : α) : Nat→α:=fun k=>if k = n then v else f k
theorem updF_at {α : Type} (f : Nat→α) (n : Nat) (v : α) : updF f n v n = v:=by simp [updF]
theorem updF_ne {α : Type} (f : Nat→α) {n k : Nat} (v : α) (h : k ≠ n) : updF f n v k = f k:=by simp [updF,h]
noncomputable def SoAd.put (ad : SoAd) (n : Nat) (I L : Addr) : SoAd:={ ad with I:=updF ad.I n I,L:=updF ad.L n L }
structure NmS (mg : Str→Option Value) (K : Frag) : Prop where
  node : mg "_NodeInfo" = some (.ref 164)
  ncls : ∃ o c,K.lookup 164 = some o∧o.cls = .type "type" ∧ o.data = .cls c
theorem not_old' {h : Heap} {a b : Addr} {o : Obj} (e : h.get? b = some o) (n : h.get? a = none) : b ≠ a:=fun q=>by rw [q,n] at e; cases e
section
variable {prog : Program} {w : World} {K : Frag} {mg mb : Str→Option Value} {A : Around} {s : Shared} {E : Value→Shared→Prop} {ad : SoAd} {x : SoTk} {n : Nat} {np : Nat→Int} {su : Nat→List Int} {mt : List Addr}
theorem SoA.more {h h' : Heap} {I L dx : Addr} {t0 t : Tok} (o : SoA prog w ad x n np su mt h) (hNm : ad.N ∈ mt) (hex : ∀ a ∈ mt,∃ o,h.get? a = some o)
    (hk : ∀ b ob,b ≠ ad.N→h.get? b = some ob→h'.get? b = some ob) (hN : h'.DictOf (intKind prog w) ad.N (nodePairs ad.I n ++ [((n : Int),.ref I)]))
    (iN : h.get? I = none) (lN : h.get? L = none) (dN : h.get? dx = none) (hI : h'.get? I = some (nodeObj L dx (.int 0 t0) (.int (n : Nat) t))) (hL : h'.get? L = some { cls:=.type "list",data:=.seq #[] }) (hd : h'.get? dx = some emptyD) :
    SoA prog w (ad.put n I L) x (n + 1) (updF np n 0) (updF su n []) (I :: L :: mt) h':=by
  refine hideG fun zD zhD=>?_
  refine e3a4 o.d fun oN eN _ goN _ edN _=>?_
  refine zhD ?_
  clear zhD zD
  have hm : ∀ b ∈ I :: L :: mt,b ∈ mt ∨ h.get? b = none:=fun b hb=>by
    rcases List.mem_cons.mp hb with rfl | hb
    · exact .inr iN
    · rcases List.mem_cons.mp hb with rfl | hb
      · exact .inr lN
      · exact .inl hb
  have hkm : ∀ b ob,b ∉ mt→h.get? b = some ob→h'.get? b = some ob:=fun b ob hb e=>hk b ob (fun q=>hb (q ▸ hNm)) e
  have hIk : ∀ k,k < n→ad.I k ≠ ad.N:=fun k hkn q=>by
    refine hideG fun zD zhD=>?_
    obtain ⟨t,t',dx,e,_⟩:=o.nd k hkn
    refine zhD ?_
    clear zhD zD
    rw [q,goN] at e
    cases e
    cases edN
  have hLk : ∀ k,k < n→ad.L k ≠ ad.N:=fun k hkn q=>by
    refine hideG fun zD zhD=>?_
    refine e1a2 (o.li k hkn) fun vs zs222 _=>?_
    refine e1a1 zs222 fun c e=>?_
    refine zhD ?_
    clear zhD zD
    rw [q,goN] at e
    cases e
    cases edN
  have hdm : dx ∉ I :: L :: mt:=fun hb=>by
    rcases List.mem_cons.mp hb with rfl | hb
    · rw [hI] at hd; simp [nodeObj,emptyD] at hd
    · rcases List.mem_cons.mp hb with rfl | hb
      · rw [hL] at hd; simp [emptyD] at hd
      · refine hideG fun zD zhD=>?_
        refine e1a1 (hex dx hb) fun ob e=>?_
        refine zhD ?_
        clear zhD zD
        rw [dN] at e; cases e
  refine ⟨?_,?_,fun k hkn=>?_,fun k hkn=>?_,fun j k hj hkn e=>?_,o.lo⟩
  · refine hideG fun zD zhD=>?_
    refine e2a1 o.s fun p f a=>?_
    refine zhD ?_
    clear zhD zD
    exact ⟨p,f,hid_mono hkm hm _ _ a.i,hid_mono hkm hm _ _ a.d⟩
  · rw [nodePairs_succ]
    have e : nodePairs (ad.put n I L).I n = nodePairs ad.I n:=nodePairs_congr fun k hkn=>updF_ne _ _ (by lia)
    rw [e]
    show h'.DictOf (intKind prog w) ad.N (nodePairs ad.I n ++ [((n : Int),.ref (updF ad.I n I n))])
    rw [updF_at]; exact hN
  · by_cases q : k = n
    · subst q
      refine ⟨t0,t,?_⟩
      show NodeAt (updF ad.I k I k) (updF ad.L k L k) (.int (updF np k 0 k) t0) (.int (k : Nat) t) (I :: L :: mt) h'
      rw [updF_at,updF_at,updF_at]
      exact ⟨dx,hI,hideAll_get _ hd hdm⟩
    · have hkn' : k < n:=by lia
      refine hideG fun zD zhD=>?_
      refine e2a1 (o.nd k hkn') fun t t' a=>?_
      refine zhD ?_
      clear zhD zD
      refine ⟨t,t',?_⟩
      show NodeAt (updF ad.I n I k) (updF ad.L n L k) (.int (updF np n 0 k) t) (.int (k : Nat) t') (I :: L :: mt) h'
      rw [updF_ne _ _ q,updF_ne _ _ q,updF_ne _ _ q]
      exact a.move (fun ob e=>hk _ ob (hIk k hkn') e) hkm hm
  · by_cases q : k = n
    · subst q
      refine ⟨[],?_,?_⟩
      · show h'.PlainList (updF ad.L k L k) _
        rw [updF_at]; exact ⟨0,hL⟩
      · rw [updF_at]; exact .nil
    · have hkn' : k < n:=by lia
      refine hideG fun zD zhD=>?_
      refine e1a2 (o.li k hkn') fun vs a b=>?_
      refine zhD ?_
      clear zhD zD
      refine ⟨vs,?_,?_⟩
      · show h'.PlainList (updF ad.L n L k) _
        rw [updF_ne _ _ q]; exact a.at fun ob e=>hk _ ob (hLk k hkn') e
      · rw [updF_ne _ _ q]; exact b
  · have hLo : ∀ k,k < n→ad.L k ≠ L:=fun k hkn=>by
      refine hideG fun zD zhD=>?_
      refine e1a2 (o.li k hkn) fun vs zs223 _=>?_
      refine e1a1 zs223 fun c e=>?_
      refine zhD ?_
      clear zhD zD
      exact not_old' e lN
    change updF ad.L n L j = updF ad.L n L k at e
    by_cases qj : j = n
    · by_cases qk : k = n
      · lia
      · subst qj
        rw [updF_at,updF_ne _ _ qk] at e
        exact absurd e.symm (hLo k (by lia))
    · by_cases qk : k = n
      · subst qk
        rw [updF_at,updF_ne _ _ qj] at e
        exact absurd e (hLo j (by lia))
      · rw [updF_ne _ _ qj,updF_ne _ _ qk] at e
        exact o.inj j k (by lia) (by lia) e
end
end Mine
namespace Mine
open PySem PySem.W PyProof.Rows PySem.Calls
section
variable {prog : Program} {w : World} {K : Frag} {mg mb : Str→Option Value} {A : Around} {s : Shared} {E : Value→Shared→Prop} {ad : SoAd} {x : SoTk} {n : Nat} {np : Nat→Int} {su : Nat→List Int} {mt : List Addr}
set_option maxHeartbeats 2000000 in
theorem info_new {t : Tok} {Q : Value→Shared→Prop} (H : FnAt K 204 fdInfo) (SK : SoK K) (NS : NmS mg K) (NN : NodeNew prog w K) (hA : Aok 1 A) (hd : A.depth ≤ 800) (hu : A.units ≤ 1000) (G : Gl K mg mb (hideAll s.heap [ad.N])) (o : SoA prog w ad x n np su mt s.heap) (hNm : ad.N ∈ mt) (hex : ∀ a ∈ mt,∃ o,s.heap.get? a = some o) (hn : n < 1000)
    (h : ∀ s' I L,Kb [ad.N] s s'→s.heap.get? I = none→s.heap.get? L = none→(∃ o,s'.heap.get? I = some o)→(∃ o,s'.heap.get? L = some o)→SoA prog w (ad.put n I L) x (n + 1) (updF np n 0) (updF su n []) (I :: L :: mt) s'.heap→Q (.ref I) s') : wpAny (model prog w) A (call (.ref 204) [.ref ad.S,.int (n : Nat) t]) Q E s:=by
  refine e3a4 o.d fun oN eN epN goN exN edN _=>?_
  have hA1:=hA.deeper (callEnvC fdInfo s.heap.objs.size 204)
  refine call_defP ["self","node"] (fd:=fdInfo) (body:=bodyOf (methAt 11 2)) (mg:=mg) (mb:=mb) (binds:=[("self",.ref ad.S),("node",.int (n : Nat) t)]) (mt:=[ad.N]) (hid:=[ad.N]) (by have:=hA.dp; lia) H.1 rfl H.2 rfl G (fun b hb=>hb) (fun b hb=>by rcases List.mem_cons.mp hb with rfl | hb; exact ⟨_,goN⟩; cases hb)
    (by kernel_rfl) rfl (by decide) (by decide +kernel) fun s₂ env k2 he hF hv=>?_
  have F₂:=hF [] (fun y d e=>nomatch e)
  have V1:=hv "self" (.ref ad.S) (.head _)
  have V2:=hv "node" (.int (n : Nat) t) (.tail _ (.head _))
  have kd : ∀ x,env.kindOf x = (scopeOf (methAt 11 2)).names.lookup x:=fun x=>by rw [he]; rfl
  rw [← he] at hA1
  have hd1 : (A.deeper env).depth ≤ 900:=by show A.depth + 1 ≤ 900; lia
  have hu1 : (A.deeper env).units ≤ 2000:=by show A.units + 3 ≤ 2000; lia
  revert hu1
  revert hd1
  revert hA1
  refine genA (A.deeper env) fun A' hA1 hd1 hu1=>?_
  have NL : ¬ Loc env ad.N:=fun hl=>by
    have e:=(F₂.locs _ hl).2
    have hlt : ad.N < s.heap.objs.size:=Heap.lt_size goN
    rcases hl with q | ⟨y,q⟩
    · rw [he] at q
      have : ad.N = s.heap.objs.size:=q
      rw [this] at hlt; exact absurd hlt (Nat.lt_irrefl _)
    · refine e0a2 (F₂.cels y _ q) fun zs272 _=>?_
      refine e2a2 zs272 fun vc oc e1 e2=>?_
      have:=Keeps.ext k2 _ _ goN
      rw [e1] at this
      cases this
      rw [edN] at e2; cases e2
  have o2:=o.ext (Keeps.ext k2)
  refine e2a1 o2.s fun p f os=>?_
  refine wpAny_execs_cons (wpAny_If (wpAny_isTrue_Compare1 (wpAny_NamedExpr (dget (kvs:=nodePairs ad.I n) (k:=(n : Int)) o2.lo o2.d V2 (so_attr SK F₂.sv.gl.k V1 os.hid SK.n1 get_n2i rfl ⟨rfl,rfl⟩) ?_ rfl (by rfl) (by decide))) (by with_unfolding_all rfl)))
  rw [nodePairs_at,if_neg (Nat.lt_irrefl _)]
  have F₃:=F₂.keeps (Keeps.tok (s₂.toks + 1 + 1))
  refine wpAny_assign_Name (F₃.storeV (v:=.none) (.inl (by rw [kd]; kernel_rfl)) [] trivial rfl fun s₄ F₄ hv4 k4=>?_)
  refine wpAny_Constant_none (is_none_gen (wpAny_truthy_bool ?_))
  show wpAny _ _ (execs _ env) _ _ _
  have V14:=k4.var "self" _ (by decide) (V1.ext (Keeps.ext (Keeps.tok (s:=s₂) (s₂.toks + 1 + 1))))
  have V24:=k4.var "node" _ (by decide) (V2.ext (Keeps.ext (Keeps.tok (s:=s₂) (s₂.toks + 1 + 1))))
  refine e2a3 NS.ncls fun oc cc hcl hct hcd=>?_
  refine wpAny_execs_cons (wpAny_Assign_two (Call_Name rfl (nm_g F₄.sv (by rw [kd]; kernel_rfl) NS.node (callWith_class rfl (args1 (wpAny_Name (V24.load ⟨⟨oc,cc,F₄.sv.gl.k _ _ hcl,hct,hcd⟩,?_⟩) (by decide))))))  rfl (by kernel_rfl))
  refine of_AX hA1.hd hd1 hu1 (NN _ _ _ _ _ F₄.sv.gl.k fun I L dx t0 h5 tk hk5 iN lN dN gI gL gd=>?_)
  have k5 : Keeps s₄ ⟨h5,s₄.gens,s₄.drawn,tk,s₄.os⟩:=⟨h5,tk,rfl,hk5⟩
  have F₅:=F₄.keeps k5
  have old : ∀ b ob,s.heap.get? b = some ob→s₄.heap.get? b = some ob:=fun b ob e=>by
    have e2:=Keeps.ext k2 b ob e
    refine k4.ext b ob (fun hl=>?_) e2
    have:=(F₂.locs b hl).2
    have hlt : b < s.heap.objs.size:=Heap.lt_size e
    rcases hl with q | ⟨y,q⟩
    · rw [he] at q
      have : b = s.heap.objs.size:=q
      rw [this] at hlt; exact absurd hlt (Nat.lt_irrefl _)
    · have hm:=(F₂.locs b (.inr ⟨y,q⟩)).1
      rw [he] at q
      have : (callEnvC fdInfo s.heap.objs.size 204).cells = []:=by kernel_rfl
      rw [this] at q; cases q
  have none0 : ∀ b,s₄.heap.get? b = none→s.heap.get? b = none:=fun b e=>by
    cases q : s.heap.get? b with
    | none=>rfl
    | some ob=>rw [old b ob q] at e; cases e
  have o5:=(o.ext old).ext hk5
  refine e2a1 o5.s fun p5 f5 os5=>?_
  have V15:=V14.ext hk5
  have V25:=V24.ext hk5
  refine assign_sub (so_attr SK F₅.sv.gl.k V15 os5.hid SK.n1 get_n2i rfl (wpAny_Name (Var.load (s:=⟨h5,s₄.gens,s₄.drawn,tk + 1,s₄.os⟩) V25 ?_) (by decide)))
  refine wpAny_setItem_pairs (s:=⟨h5,s₄.gens,s₄.drawn,tk + 1,s₄.os⟩) (hsz:=by rw [sizeLine_eq]; simp [nodePairs]; lia) (intKind_is prog w n t) o5.d fun h6 hd6 hs6=>?_
  rw [nodePairs_new] at hd6
  have kb6 : ∀ b ob,b ≠ ad.N→h5.get? b = some ob→h6.get? b = some ob:=hs6.extBut
  have hNx : ad.N ∈ mtOf env ++ [ad.N]:=List.mem_append.mpr (.inr (.head _))
  have F₆ : Fm K mg mb (hidS s [ad.N]) env (mtOf env ++ [ad.N]) [] { s₄ with heap:=h6,toks:=tk + 1 + 1 }:=by
    have:=F₅.turn (mt':=mtOf env ++ [ad.N]) (h':=h6) (tk:=tk + 1 + 1) (fun _ hb=>hb) (fun _ hb=>.inl hb) (fun b hb=>?_) (fun b ob hb e=>kb6 b ob (fun q=>NL (q ▸ hb (q ▸ hNx))) e) (fun b ob e=>kb6 b ob (fun q=>?_) (Keeps.ext F₅.keep b ob e))
    · exact this
    · by_cases q : b = ad.N
      · obtain ⟨o6,_,_,e6,_⟩:=hd6; exact ⟨o6,q ▸ e6⟩
      · obtain ⟨ob,e⟩:=F₅.mex b hb; exact ⟨ob,kb6 b ob q e⟩
    · have:=(hid_not e).1
      exact this (q ▸ .head _)
  refine wpAny_assign_Name (F₆.storeV (.inl (by rw [kd]; kernel_rfl)) [] trivial rfl fun s₇ F₇ hv7 k7=>?_)
  refine wpAny_execs_nil (wpAny_execs_cons (wpAny_Return_some (wpAny_Name (hv7.load ?_) (by decide))))
  have newL : ∀ b ob,h6.get? b = some ob→(s.heap.get? b = some ob ∨ b = ad.N ∨ s₄.heap.get? b = none)→s₇.heap.get? b = some ob:=fun b ob e hc=>by
    refine k7.ext b ob (fun hl=>?_) e
    have hb:=(F₂.locs b hl).2
    rcases hc with q | q | q
    · have hlt : b < s.heap.objs.size:=Heap.lt_size q
      rcases hl with r | ⟨y,r⟩
      · rw [he] at r
        have : b = s.heap.objs.size:=r
        rw [this] at hlt; exact absurd hlt (Nat.lt_irrefl _)
      · rw [he] at r
        have : (callEnvC fdInfo s.heap.objs.size 204).cells = []:=by kernel_rfl
        rw [this] at r; cases r
    · exact NL (q ▸ hl)
    · refine e1a1 (F₄.mex b (F₄.locs b hl).1) fun ob' e'=>?_
      rw [q] at e'; cases e'
  have hNI : I ≠ ad.N:=fun q=>by rw [q] at iN; rw [old _ _ goN] at iN; cases iN
  have hNL : L ≠ ad.N:=fun q=>by rw [q] at lN; rw [old _ _ goN] at lN; cases lN
  have hNd : dx ≠ ad.N:=fun q=>by rw [q] at dN; rw [old _ _ goN] at dN; cases dN
  have gI7:=newL _ _ (kb6 _ _ hNI gI) (.inr (.inr iN))
  have gL7:=newL _ _ (kb6 _ _ hNL gL) (.inr (.inr lN))
  have gd7:=newL _ _ (kb6 _ _ hNd gd) (.inr (.inr dN))
  have kall : ∀ b ob,b ≠ ad.N→s.heap.get? b = some ob→s₇.heap.get? b = some ob:=fun b ob hb e=>newL b ob (kb6 b ob hb (hk5 b ob (old b ob e))) (.inl e)
  have hd7 : s₇.heap.DictOf (intKind prog w) ad.N (nodePairs ad.I n ++ [((n : Int),.ref I)]):=hd6.at fun ob e=>newL _ ob e (.inr (.inl rfl))
  refine h s₇ I L ?_ (none0 I iN) (none0 L lN) ⟨_,gI7⟩ ⟨_,gL7⟩ (o.more hNm hex kall hd7 (none0 I iN) (none0 L lN) (none0 dx dN) gI7 gL7 gd7)
  refine e2a2 F₇.keep fun h' tk' e _=>?_
  refine ⟨h',tk',e,fun b ob hb e2=>?_⟩
  have:=kall b ob (fun q=>hb (q ▸ .head _)) e2
  rw [e] at this; exact this
end
end Mine
namespace Mine
open PySem PySem.W PyProof.Rows PySem.Calls
noncomputable def SoAd.mut (ad : SoAd) (n : Nat) : List Addr:=ad.N :: ((List.range n).map ad.I ++ (List.range n).map ad.L)
theorem SoAd.mutN (ad : SoAd) (n : Nat) : ad.N ∈ ad.mut n:=.head _
theorem SoAd.mutI (ad : SoAd) {n k : Nat} (h : k < n) : ad.I k ∈ ad.mut n:=.tail _ (List.mem_append.mpr (.inl (List.mem_map.mpr ⟨k,List.mem_range.mpr h,rfl⟩)))
theorem SoAd.mutL (ad : SoAd) {n k : Nat} (h : k < n) : ad.L k ∈ ad.mut n:=.tail _ (List.mem_append.mpr (.inr (List.mem_map.mpr ⟨k,List.mem_range.mpr h,rfl⟩)))
section
variable {prog : Program} {w : World} {ad : SoAd} {x : SoTk} {n : Nat} {np : Nat→Int} {su : Nat→List Int} {mt mt' ws ms : List Addr} {h h' : Heap} {s s' : Shared} {env : Env} {xs : List Str}
theorem SoA.mutEx (o : SoA prog w ad x n np su mt h) : ∀ b ∈ ad.mut n,∃ ob,h.get? b = some ob:=fun b hb=>by
  rcases List.mem_cons.mp hb with rfl | hb
  · obtain ⟨oN,_,_,e,_⟩:=o.d; exact ⟨_,e⟩
  · rcases List.mem_append.mp hb with hb | hb
    · refine e1a2 (List.mem_map.mp hb) fun k hk zr316=>?_
      subst zr316
      obtain ⟨t,t',dx,e,_⟩:=o.nd k (List.mem_range.mp hk)
      exact ⟨_,e⟩
    · refine e1a2 (List.mem_map.mp hb) fun k hk zr318=>?_
      subst zr318
      refine e1a2 (o.li k (List.mem_range.mp hk)) fun vs zs319 _=>?_
      refine e1a1 zs319 fun c e=>?_
      exact ⟨_,e⟩
theorem SoA.by (o : SoA prog w ad x n np su mt h) (hu : ∀ b ∈ ad.mut n,∀ ob,h.get? b = some ob→h'.get? b = some ob)
    (hk : ∀ b ob,b ∉ mt→h.get? b = some ob→h'.get? b = some ob) (hm : ∀ b ∈ mt',b ∈ mt ∨ h.get? b = none) : SoA prog w ad x n np su mt' h' :=
  o.move (hu _ (ad.mutN n)) (fun k hkn=>hu _ (ad.mutI hkn)) (fun k hkn=>hu _ (ad.mutL hkn)) hk hm
theorem SoA.kl (o : SoA prog w ad x n np su mt s.heap) (k : Kl env xs s s') (hm : ∀ b,Loc env b→b ∈ mt) (hL : ∀ b ∈ ad.mut n,¬ Loc env b) : SoA prog w ad x n np su mt s'.heap :=
  o.by (fun b hb ob e=>k.ext b ob (hL b hb) e) (fun b ob hb e=>k.ext b ob (fun hl=>hb (hm b hl)) e) fun _ hb=>.inl hb
theorem SoA.mv (o : SoA prog w ad x n np su mt s.heap) (m : Mv env xs ms mt mt' s s') (hms : ∀ b ∈ ad.mut n,b ∈ ms) : SoA prog w ad x n np su mt' s'.heap :=
  o.by (fun b hb ob e=>m.keep b ob (fun _=>hms b hb) e) (fun b ob hb e=>m.keep b ob (fun q=>absurd q hb) e) m.hid
theorem SoA.hide (o : SoA prog w ad x n np su mt h) (hm : ∀ b ∈ mt',b ∈ mt ∨ h.get? b = none) : SoA prog w ad x n np su mt' h:=o.by (fun _ _ _ e=>e) (fun _ _ _ e=>e) hm
theorem SoA.II (o : SoA prog w ad x n np su mt h) {j k : Nat} (hj : j < n) (hk : k < n) (e : ad.I j = ad.I k) : j = k:=by
  obtain ⟨t,t',dx,e1,_⟩:=o.nd j hj
  obtain ⟨u,u',dy,e2,_⟩:=o.nd k hk
  rw [e,e2] at e1
  simp only [nodeObj,Option.some.injEq,Obj.mk.injEq,Array.mk.injEq,List.cons.injEq,Value.int.injEq,and_true,true_and] at e1
  lia
theorem SoA.IL (o : SoA prog w ad x n np su mt h) {j k : Nat} (hj : j < n) (hk : k < n) : ad.L j ≠ ad.I k:=fun e=>by
  obtain ⟨t,t',dx,e1,_⟩:=o.nd k hk
  refine e1a2 (o.li j hj) fun vs zs321 _=>?_
  refine e1a1 zs321 fun c e2=>?_
  rw [e,e1] at e2
  simp [nodeObj] at e2
theorem SoA.NI (o : SoA prog w ad x n np su mt h) {k : Nat} (hk : k < n) : ad.N ≠ ad.I k:=fun e=>by
  obtain ⟨t,t',dx,e1,_⟩:=o.nd k hk
  refine e3a4 o.d fun oN _ _ e2 _ e3 _=>?_
  rw [e,e1] at e2
  cases e2; cases e3
theorem SoA.NL (o : SoA prog w ad x n np su mt h) {k : Nat} (hk : k < n) : ad.N ≠ ad.L k:=fun e=>by
  refine e1a2 (o.li k hk) fun vs zs323 _=>?_
  refine e1a1 zs323 fun c e1=>?_
  refine e3a4 o.d fun oN _ _ e2 _ e3 _=>?_
  rw [e,e1] at e2
  cases e2; cases e3
theorem SoA.setNp (o : SoA prog w ad x n np su mt h) {k : Nat} (hk : k < n) {v : Int} {t t' : Tok} (hI : ad.I k ∈ mt) (hs : Heap.SameBut (ad.I k) h h') (a : NodeAt (ad.I k) (ad.L k) (.int v t) (.int (k : Nat) t') mt h') : SoA prog w ad x n (updF np k v) su mt h':=by
  have kb : ∀ b ob,b ≠ ad.I k→h.get? b = some ob→h'.get? b = some ob:=hs.extBut
  have km : ∀ b ob,b ∉ mt→h.get? b = some ob→h'.get? b = some ob:=fun b ob hb e=>kb b ob (fun q=>hb (q ▸ hI)) e
  refine ⟨let ⟨p,f,a⟩:=o.s; ⟨p,f,hid_mono km (fun _ hb=>.inl hb) _ _ a.i,hid_mono km (fun _ hb=>.inl hb) _ _ a.d⟩,o.d.at fun ob e=>kb _ ob (o.NI hk) e,fun j hj=>?_,fun j hj=>?_,o.inj,o.lo⟩
  · by_cases q : j = k
    · subst q; exact ⟨t,t',by rw [updF_at]; exact a⟩
    · refine e2a1 (o.nd j hj) fun u u' b=>?_
      exact ⟨u,u',by rw [updF_ne _ _ q]; exact b.move (fun ob e=>kb _ ob (fun z=>q (o.II hj hk z)) e) km fun _ hb=>.inl hb⟩
  · refine e1a2 (o.li j hj) fun vs b c=>?_
    exact ⟨vs,b.at fun ob e=>kb _ ob (o.IL hj hk) e,c⟩
theorem SoA.push (o : SoA prog w ad x n np su mt h) {k : Nat} (hk : k < n) {i : Int} {t : Tok} {vs : List Value} (hL : ad.L k ∈ mt) (hs : Heap.SameBut (ad.L k) h h') (hv : IntsAre vs (su k)) (a : h'.PlainList (ad.L k) (vs ++ [Value.int i t]).toArray) : SoA prog w ad x n np (updF su k (su k ++ [i])) mt h':=by
  have kb : ∀ b ob,b ≠ ad.L k→h.get? b = some ob→h'.get? b = some ob:=hs.extBut
  have km : ∀ b ob,b ∉ mt→h.get? b = some ob→h'.get? b = some ob:=fun b ob hb e=>kb b ob (fun q=>hb (q ▸ hL)) e
  refine ⟨let ⟨p,f,a⟩:=o.s; ⟨p,f,hid_mono km (fun _ hb=>.inl hb) _ _ a.i,hid_mono km (fun _ hb=>.inl hb) _ _ a.d⟩,o.d.at fun ob e=>kb _ ob (o.NL hk) e,fun j hj=>?_,fun j hj=>?_,o.inj,o.lo⟩
  · refine e2a1 (o.nd j hj) fun u u' b=>?_
    exact ⟨u,u',b.move (fun ob e=>kb _ ob (Ne.symm (o.IL hk hj)) e) km fun _ hb=>.inl hb⟩
  · by_cases q : j = k
    · subst q
      exact ⟨vs ++ [.int i t],a,by rw [updF_at]; exact hv.append (.cons i t .nil)⟩
    · refine e1a2 (o.li j hj) fun us b c=>?_
      exact ⟨us,b.at fun ob e=>kb _ ob (fun z=>q (o.inj j k hj hk z)) e,by rw [updF_ne _ _ q]; exact c⟩
end
end Mine
namespace Mine
open PySem PySem.W PyProof.Rows PySem.Calls
noncomputable def pmG : Value:=.str "cpy313.graphlib" 404
noncomputable def fdAdd (doc : Value) : FuncData:=fdS (methAt 11 3) "add" "TopologicalSorter.add" pmG (.ref 210) .none doc
noncomputable def fdPrep (doc : Value) : FuncData:=fdS (methAt 11 4) "prepare" "TopologicalSorter.prepare" pmG (.ref 215) .none doc
noncomputable def fdReady (doc : Value) : FuncData:=fdS (methAt 11 5) "get_ready" "TopologicalSorter.get_ready" pmG (.ref 222) .none doc
noncomputable def fdDone (doc : Value) : FuncData:=fdS (methAt 11 8) "done" "TopologicalSorter.done" pmG (.ref 243) .none doc
noncomputable def fdCyc : FuncData:=fdS (methAt 11 9) "_find_cycle" "TopologicalSorter._find_cycle" pmG (.ref 250) .none .none
structure SoM (K : Frag) : Prop where
  info : findIn K (.ref 261) "_get_nodeinfo" = some (some (.ref 204))∧FnAt K 204 fdInfo
  add : findIn K (.ref 261) "add" = some (some (.ref 211))∧∃ doc,FnAt K 211 (fdAdd doc)
  prep : findIn K (.ref 261) "prepare" = some (some (.ref 216))∧∃ doc,FnAt K 216 (fdPrep doc)
  ready : findIn K (.ref 261) "get_ready" = some (some (.ref 223))∧∃ doc,FnAt K 223 (fdReady doc)
  done : findIn K (.ref 261) "done" = some (some (.ref 244))∧∃ doc,FnAt K 244 (fdDone doc)
  cyc : findIn K (.ref 261) "_find_cycle" = some (some (.ref 251))∧FnAt K 251 fdCyc
theorem bind_add (doc a b : Value) : ∀ (rest : List Value),rest.length ≤ 2→bindArgs (fdAdd doc) ⟨a :: b :: rest,[]⟩ = (newTuple rest >>= fun t=>pure ([("self",a),("node",b),("predecessors",t)] : List (Str × Value)))
  | [],_=>by kernel_rfl
  | [p],_=>by kernel_rfl
  | [p,q],_=>by kernel_rfl
  | _ :: _ :: _ :: _,h=>by simp at h
section
variable {prog : Program} {w : World} {K : Frag} {mg mb : Str→Option Value} {A : Around} {env : Env} {s : Shared} {E : Value→Shared→Prop} {S D N : Addr} {x : SoTk} {rv po fi : Value}
theorem so_call {nm m : Str} {f : Addr} {fo : Obj} {fd : FuncData} {args : List Expr} {p apos pos : Pos} {Q : Value→Shared→Prop} (H : SoK K) (X : K.In s.heap) (hv : Var env s.heap nm (.ref S)) (o : SoS S D N x rv po fi s.heap)
    (hm : findIn K (.ref 261) m = some (some (.ref f))) (hfo : K.lookup f = some fo) (hfc : fo.cls = .type "function") (hfd : fo.data = .func fd) (hsh : getL m (soEs x N rv po fi) = some none)
    (h : wpAny (model prog w) A (evalArgs (.ref f) true (backTo pos (starEach args env)) []) (fun a s₁=>a.kw = []∧K.In s₁.heap∧wpAny (model prog w) A (call (.ref f) (.ref S :: a.pos)) Q E s₁) E s)
    (hfew : methodCallForm (args.length + ([] : List Keyword).length) (backTo pos (starEach args env)) (backToKw pos (keywordEach [] env)) = true)
    (hline : (apos.endLine == pos.line) = true:=by rfl) (hbase : attributeBase (.Name nm p) m env (eval (.Name nm p) env) = eval (.Name nm p) env:=by rfl) (hdb : (nm == ("__debug__" : Str)) = false:=by decide) :
    wpAny (model prog w) A (eval (.Call (.Attribute (.Name nm p) m apos) args [] pos) env) Q E s:=by
  refine call_attr hbase hfew hline (wpAny_Name (hv.load fun pl=>?_) hdb)
  have ht : typeIn K (.ref f) = some (.type "function"):=by show Option.map (fun x : Obj=>x.cls) (List.lookup f K) = _; rw [hfo,← hfc]; rfl
  refine method_fn X o.inst H.ga H.gm hm ht (by show (lookIn m (soDict x N rv po fi)).map _ = _; rw [show lookIn m (soDict x N rv po fi) = getL m (soEs x N rv po fi) from lookIn_dict _ _ _,hsh]; rfl) ?_
  refine callWith_function_kw (o:=fo) (fd:=fd) (wpAny_mono h (fun a s₁ ⟨e,X1,h1⟩=>⟨⟨X1 _ _ hfo,hfd⟩,?_⟩) fun _ _ e=>e)
  rw [e]; exact h1
end
section
variable {prog : Program} {w : World} {K : Frag} {mg mb : Str→Option Value} {A : Around} {s : Shared} {E : Value→Shared→Prop} {ad : SoAd} {x : SoTk} {n : Nat} {np : Nat→Int} {su : Nat→List Int} {mt : List Addr}
theorem sh_info {rv po fi : Value} {N : Addr} : getL "_get_nodeinfo" (soEs x N rv po fi) = some none:=by kernel_rfl
theorem add_enter {doc : Value} {k : Nat} {t : Tok} {ps : List Nat} {vs : List Value} {Q : Value→Shared→Prop} (H : FnAt K 211 (fdAdd doc)) {hid : List Addr} (hA : Aok 2 A) (G : Gl K mg mb (hideAll s.heap hid)) (hhm : ∀ b ∈ hid,b ∈ mt) (o : SoA prog w ad x n np su mt s.heap) (hmm : ∀ b ∈ ad.mut n,b ∈ mt) (hex : ∀ a ∈ mt,∃ o,s.heap.get? a = some o)
    (hvs : IntsAre vs (ps.map fun p : Nat=>(p : Int))) (hl : ps.length ≤ 2)
    (h : ∀ s₂ env,Kb [] s s₂→Aok 1 (A.deeper env)→(∀ y,env.kindOf y = (scopeOf (methAt 11 3)).names.lookup y)→interactive env = false →
      Fm K mg mb (hidS s hid) env (mtOf env ++ mt) [("node",.int (k : Nat)),("predecessors",.tuple (ps.map fun p : Nat=>.int (p : Nat)))] s₂→Var env s₂.heap "self" (.ref ad.S)→SoA prog w ad x n np su (mtOf env ++ mt) s₂.heap→(∀ b ∈ ad.mut n,¬ Loc env b)→(∀ b,Loc env b→s.heap.get? b = none) →
      wpAny (model prog w) (A.deeper env) (execs (bodyOf (methAt 11 3)) env) (fun fl s'=>Q (match fl with | .ret v=>v | _=>.none) s') (fun _ _=>False) s₂) :
    codeAny (model prog w) A (.call (.ref 211) ⟨.ref ad.S :: .int (k : Nat) t :: vs,[]⟩) (Rw Q E) s:=by
  have hvl : vs.length = ps.length:=by simpa using hvs.length
  refine call_defGC ["self","node","predecessors"] (fun b s₁=>∃ T,b = ([("self",.ref ad.S),("node",.int (k : Nat) t),("predecessors",.ref T)] : List (Str × Value))∧s.heap.get? T = none∧s₁.heap.get? T = some { cls:=.type "tuple",data:=.seq vs.toArray }) (fd:=fdAdd doc) (body:=bodyOf (methAt 11 3)) (mg:=mg) (mb:=mb) (mt:=mt) (hid:=hid) (by have:=hA.dp; omega) H.1 rfl H.2 rfl G hhm hex
    (fun E'=>?_) (by decide) (show ∀ x ∈ (["self","node","predecessors"] : List Str),(scopeOf (methAt 11 3)).names.lookup x = some .local ∨ (scopeOf (methAt 11 3)).names.lookup x = some .cell from by decide +kernel) fun b s₁ s₂ env ⟨T,eb,tn,tg⟩ k1 k2 he hF hv=>?_
  · rw [bind_add doc _ _ vs (by omega)]
    unfold newTuple
    refine wpAny_bind (wpAny_newObj_type (wpAny_pure ⟨Keeps.push _,rfl,s.heap.objs.size,rfl,Heap.get?_none_of_le (Nat.le_refl _),Heap.get?_push_size _ rfl⟩) (by show vs.toArray.size ≤ sizeLine; rw [List.size_toArray,sizeLine_eq]; omega))
  · subst eb
    have k02:=Keeps.trans' k1 k2
    have hA1:=hA.deeper env
    have F:=hF [("node",.int (k : Nat)),("predecessors",.tuple (ps.map fun p : Nat=>.int (p : Nat)))] (fun y d e=>by
      rcases lookup_put e with ⟨rfl,rfl⟩ | ⟨_,e⟩
      · exact ⟨_,.tail _ (.head _),.int _ _⟩
      · rcases lookup_put e with ⟨rfl,rfl⟩ | ⟨_,e⟩
        · refine ⟨.ref T,.tail _ (.tail _ (.head _)),.mkTuple tg (not_mt hex tn) ?_⟩
          have:=RpA.ofInts (h:=s₁.heap) (mt:=mt) hvs
          rw [List.map_map] at this
          exact this
        · cases e)
    have locN : ∀ b,Loc env b→s.heap.get? b = none:=fun b hl=>by
      have z:=(F.locs b hl)
      have hz : s₁.heap.get? b = none:=by
        cases q : s₁.heap.get? b with
        | none=>rfl
        | some ob =>
          exfalso
          have hlt:=Heap.lt_size q
          rcases hl with r | ⟨y,r⟩
          · rw [he] at r
            have : b = s₁.heap.objs.size:=r
            rw [this] at hlt; exact absurd hlt (Nat.lt_irrefl _)
          · rw [he] at r
            have : (callEnvC (fdAdd doc) s₁.heap.objs.size 211).cells = []:=by kernel_rfl
            rw [this] at r; cases r
      exact none_old k1 hz
    have mL : ∀ b ∈ ad.mut n,¬ Loc env b:=fun b hb hl=>by
      refine e1a1 (o.mutEx b hb) fun ob e=>?_
      rw [locN b hl] at e; cases e
    have newm : ∀ b ∈ mtOf env ++ mt,b ∈ mt ∨ s.heap.get? b = none:=fun b hb=>by
      rcases List.mem_append.mp hb with q | q
      · right
        rcases List.mem_cons.mp q with rfl | q
        · exact locN _ (.inl rfl)
        · refine e1a2 (List.mem_map.mp q) fun pp hp zr336=>?_
          subst zr336
          refine e1a1 (lookup_of_mem hp) fun c' hc'=>?_
          rw [hc']
          exact locN _ (.inr ⟨_,hc'⟩)
      · exact .inl q
    refine h s₂ env (Kb.of k02) hA1 (fun y=>by rw [he]; rfl) (by rw [he]; kernel_rfl) F (hv _ _ (.head _)) ((o.hide newm).ext (Keeps.ext k02)) mL locN |> fun z=>wpAny_mono z (fun _ _ q=>q) fun _ _ f=>f.elim
end
end Mine
namespace Mine
open PySem PySem.W PyProof.Rows PySem.Calls
noncomputable def addSu (su : Nat→List Int) (k : Nat) (ps : List Nat) : Nat→List Int:=ps.foldl (fun su p=>updF su p (su p ++ [(k : Int)])) su
theorem addSu_snoc (su : Nat→List Int) (k : Nat) (ps : List Nat) (p : Nat) : addSu su k (ps ++ [p]) = updF (addSu su k ps) p (addSu su k ps p ++ [(k : Int)]):=by
  unfold addSu; rw [List.foldl_append]; rfl
theorem addSu_len (k : Nat) : ∀ (ps : List Nat) (su : Nat→List Int) (q : Nat),(addSu su k ps q).length ≤ (su q).length + ps.length
  | [],su,q=>by simp [addSu]
  | p :: ps,su,q=>by
    have h : addSu su k (p :: ps) = addSu (updF su p (su p ++ [(k : Int)])) k ps:=rfl
    have ih:=addSu_len k ps (updF su p (su p ++ [(k : Int)])) q
    rw [h,List.length_cons]
    by_cases e : q = p
    · subst e
      rw [updF_at,List.length_append] at ih
      simp at ih; lia
    · rw [updF_ne _ _ e] at ih; lia
section
variable {prog : Program} {w : World} {K : Frag} {mg mb : Str→Option Value} {A : Around} {env : Env} {s s0 : Shared} {E : Value→Shared→Prop} {ad : SoAd} {x : SoTk} {n : Nat} {np : Nat→Int} {su : Nat→List Int} {mt : List Addr} {ρ : List (Str × PyData)} {Q : Flow→Shared→Prop}
theorem ex_docK {x : Str} {k : Nat} {p ep : Pos} {rest : List Stmt} (F : Fm K mg mb s0 env mt ρ s) (hi : interactive env = false) (h : ∀ s',Fm K mg mb s0 env mt ρ s'→Keeps s s'→wpAny (model prog w) A (execs rest env) Q E s') :
    wpAny (model prog w) A (execs (.Expr (.Constant (.str x) k p) ep :: rest) env) Q E s :=
  wpAny_execs_cons (wpAny_Expr (wpAny_Constant_str (h _ (F.keeps (Keeps.tok _)) (Keeps.tok _))) hi rfl)
theorem ex_info {y z : Str} {p p1 p2 apos pos spos : Pos} {rest : List Stmt} {k : Nat} (SK : SoK K) (SM : SoM K) (hA : Aok 1 A) (F : Fm K mg mb s0 env mt ρ s) (V : Var env s.heap "self" (.ref ad.S)) (o : SoA prog w ad x n np su mt s.heap) (hy : ρ.lookup y = some (.int (k : Nat))) (hk : k < n) (hz : env.kindOf z = some .local)
    (ρ' : List (Str × PyData)) (hs : Sub ρ ρ') (hn : ρ'.lookup z = none) (hL : ∀ b ∈ ad.mut n,¬ Loc env b) (hzs : z ≠ "self") (hzy : z ≠ y)
    (h : ∀ s',Fm K mg mb s0 env mt ρ' s'→Var env s'.heap z (.ref (ad.I k))→Kl env [z] s s'→wpAny (model prog w) A (execs rest env) Q E s')
    (hsw : swapsWith (.Call (.Attribute (.Name "self" p1) "_get_nodeinfo" apos) [.Name y p2] [] pos) (some (.Name z p)) spos.line env = pure false:=by rfl) (hline : (apos.endLine == pos.line) = true:=by rfl) (hdb : (y == ("__debug__" : Str)) = false:=by decide) :
    wpAny (model prog w) A (execs (.Assign [.Name z p] (.Call (.Attribute (.Name "self" p1) "_get_nodeinfo" apos) [.Name y p2] [] pos) spos :: rest) env) Q E s:=by
  refine e1a2 (F.vars y _ hy) fun v hv hr=>?_
  refine e1a1 hr.int_inv fun t zr169=>?_
  subst zr169
  refine e2a1 o.s fun pp ff os=>?_
  refine wpAny_execs_cons (wpAny_Assign_Name (so_call SK F.sv.gl.k V os.hid SM.info.1 SM.info.2.1 rfl rfl sh_info (args1 (wpAny_Name (hv.load ⟨rfl,F.sv.gl.k,?_⟩) hdb)) (by rfl) hline) hsw)
  refine info_old SM.info.2 SK hA F.sv.gl o hk fun s' k'=>?_
  exact (F.keeps k').storeV (.inl hz) ρ' hs hn fun s₂ F₂ hv₂ k₂=>h s₂ F₂ hv₂ (Kl.trans (Kl.of k') k₂)
set_option maxHeartbeats 4000000 in
theorem add_old {doc : Value} {k : Nat} {t : Tok} {ps : List Nat} {vs : List Value} {Q : Value→Shared→Prop} (N : Nm mg mb) (SK : SoK K) (SM : SoM K) (H : FnAt K 211 (fdAdd doc)) (hA : Aok 2 A) (G : Gl K mg mb (hideAll s.heap (ad.mut n))) (o : SoA prog w ad x n np su mt s.heap) (hmm : ∀ b ∈ ad.mut n,b ∈ mt) (hex : ∀ a ∈ mt,∃ o,s.heap.get? a = some o)
    (hvs : IntsAre vs (ps.map fun p : Nat=>(p : Int))) (hl : ps.length ≤ 2) (hk : k < n) (hps : ∀ p ∈ ps,p < n) (hsz : ∀ p,(su p).length ≤ 1000)
    (h : ∀ s',Kb (ad.mut n) s s'→SoA prog w ad x n (updF np k (np k + (ps.length : Nat))) (addSu su k ps) mt s'.heap→Q .none s') :
    codeAny (model prog w) A (.call (.ref 211) ⟨.ref ad.S :: .int (k : Nat) t :: vs,[]⟩) (Rw Q E) s:=by
  refine add_enter H hA G hmm o hmm hex hvs hl fun s₂ env k02 hA1 kd hi F V o2 mL locN=>?_
  revert hA1
  refine genA (A.deeper env) fun A' hA1=>?_
  have hA0 : Aok 0 A':=hA1.le (by decide)
  have hm : ∀ b,Loc env b→b ∈ mtOf env ++ mt:=fun b hb=>(F.locs b hb).1
  refine ex_docK F hi fun s₃ F₃ k3=>?_
  have V3:=V.ext (Keeps.ext k3)
  have o3:=o2.ext (Keeps.ext k3)
  refine hideG fun zD zhD=>?_
  refine e2a1 o3.s fun pp ff os3=>?_
  refine zhD ?_
  clear zhD zD
  refine ex_ifR F₃ (b:=false) (wpAny_isTrue_Compare1 (so_attr SK F₃.sv.gl.k V3 os3.hid SK.n2 get_ready rfl (wpAny_Constant_none (isnot_none_gen (wpAny_truthy_bool ⟨rfl,Keeps.tok _⟩)))) (by with_unfolding_all rfl)) (fun e=>nomatch e) fun _ s₄ F₄ k4=>wpAny_execs_nil ?_
  have V4:=V3.ext (Keeps.ext k4)
  have o4:=o3.ext (Keeps.ext k4)
  refine ex_info (z := "nodeinfo") (y := "node") (k:=k) SK SM hA1 F₄ V4 o4 rfl hk (by rw [kd]; kernel_rfl) [("node",.int (k : Nat)),("predecessors",.tuple (ps.map fun p : Nat=>.int (p : Nat)))] ⟨rfl,rfl,trivial⟩ rfl mL (by decide) (by decide) fun s₅ F₅ v5 k5=>?_
  have V5:=k5.var _ _ (by decide) V4
  have o5:=o4.kl k5 hm mL
  refine hideG fun zD zhD=>?_
  refine e2a1 (o5.nd k hk) fun tn tk nd5=>?_
  refine e1a2 (F₅.vars "predecessors" _ rfl) fun vp hvp rp=>?_
  refine e3a4 rp.tuple_inv fun T us nT zr170 _ hT rT=>?_
  subst zr170
  refine zhD ?_
  clear zhD zD
  have hul : us.length = ps.length:=by simpa using rT.length
  have hIm : ad.I k ∈ mtOf env ++ mt:=List.mem_append.mpr (.inr (hmm _ (ad.mutI hk)))
  refine wpAny_execs_cons (wpAny_AugAssign_AttributeAny (wpAny_Name (v5.load (node_get SK F₅.sv.gl.k nd5 SK.s1 (v:=.int (np k) tn) rfl rfl ?_)) (by decide)))
  refine Call_Name rfl (nm_b (F₅.keeps (Keeps.tok _)).sv (by rw [kd]; kernel_rfl) N.len.1 N.len.2 (callWith_builtin rfl (args1 (wpAny_Name (Var.load (s:={ s₅ with toks:=s₅.toks + 1 }) hvp ?_) (by decide)))))
  refine len_tuple (s:={ s₅ with toks:=s₅.toks + 1 }) (items:=us.toArray) (tup_is hT) (by rw [List.size_toArray,hul]; lia) ?_
  rw [List.size_toArray,hul]
  refine iadd_int ?_
  refine node_set (s:={ s₅ with toks:=s₅.toks + 1 + 1 + 1 + 1 }) SK F₅.sv.gl.k nd5 hIm fun h6 tk6 nd6 hs6=>?_
  have kb6 : ∀ b ob,b ≠ ad.I k→s₅.heap.get? b = some ob→h6.get? b = some ob:=hs6.extBut
  have o6 : SoA prog w ad x n (updF np k (np k + (ps.length : Nat))) su (mtOf env ++ mt) h6:=o5.setNp hk hIm hs6 nd6
  have F₆ : Fm K mg mb (hidS s (ad.mut n)) env (mtOf env ++ mt) [("node",.int (k : Nat)),("predecessors",.tuple (ps.map fun p : Nat=>.int (p : Nat)))] { s₅ with heap:=h6,toks:=tk6 }:=by
    refine F₅.turn (fun _ hb=>hb) (fun _ hb=>.inl hb) (fun b hb=>?_) (fun b ob hb e=>kb6 b ob (fun q=>mL _ (ad.mutI hk) (q ▸ hb (q ▸ hIm))) e) fun b ob e=>kb6 b ob (fun q=>?_) (Keeps.ext F₅.keep b ob e)
    · by_cases q : b = ad.I k
      · obtain ⟨dx,e,_⟩:=nd6.at_; exact ⟨_,q ▸ e⟩
      · obtain ⟨ob,e⟩:=F₅.mex b hb; exact ⟨ob,kb6 b ob q e⟩
    · exact (hid_not e).1 (q ▸ ad.mutI hk)
  have V6 : Var env h6 "self" (.ref ad.S):=Var.kb (s₁:=s₅) (s₂:={ s₅ with heap:=h6,toks:=tk6 }) V5 (⟨h6,tk6,rfl,fun b ob hb e=>kb6 b ob (fun q=>hb (q ▸ .head _)) e⟩ : Kb [ad.I k] s₅ { s₅ with heap:=h6,toks:=tk6 }) fun b hb=>by rcases List.mem_cons.mp hb with rfl | hb; exact mL _ (ad.mutI hk); cases hb
  refine ex_forX ["pred"] ["pred_info"] (ad.mut n) (fun d=>[("pred",d)]) (fun _=>[("node",.int (k : Nat)),("predecessors",.tuple (ps.map fun p : Nat=>.int (p : Nat)))]) (fun i m u=>Var env u.heap "self" (.ref ad.S)∧SoA prog w ad x n (updF np k (np k + (ps.length : Nat))) (addSu su k (ps.take i)) m u.heap) F₆
    ⟨V6,by simpa [addSu] using o6⟩ (fun b hb=>List.mem_append.mpr (.inr (hmm b hb))) mL (src_tuple (ds:=ps.map fun p : Nat=>.int (p : Nat)) hA1.hd (pe_name _ rfl)) (fun d _=>tgtF_name (.inl (by rw [kd]; kernel_rfl))) ⟨rfl,rfl,trivial⟩ ?_ ?_ ?_
  · intro i m₁ m₂ u₁ u₂ zi138 mv
    refine e0a2 zi138 fun a1 a2=>?_
    exact ⟨mv.var _ _ (by decide) a1,a2.mv mv fun b hb=>hb⟩
  · intro i d m u hd hmm' G₁ zi139
    refine e0a2 zi139 fun a1 a2=>?_
    rw [List.getElem?_map] at hd
    refine hideG fun zD zhD=>?_
    refine e1a2 (Option.map_eq_some_iff.mp hd) fun p hp zr171=>?_
    subst zr171
    refine zhD ?_
    clear zhD zD
    have hpn : p < n:=hps p (List.mem_of_getElem? hp)
    have hm' : ∀ b,Loc env b→b ∈ m:=fun b hb=>(G₁.locs b hb).1
    refine ex_info (z := "pred_info") (y := "pred") (k:=p) SK SM hA1 G₁ a1 a2 rfl hpn (by rw [kd]; kernel_rfl) [("node",.int (k : Nat)),("predecessors",.tuple (ps.map fun p : Nat=>.int (p : Nat)))] ⟨rfl,rfl,trivial⟩ rfl mL (by decide) (by decide) fun u₁ G₂ v2 k2=>?_
    have b1:=k2.var _ _ (by decide) a1
    have b2:=a2.kl k2 hm' mL
    refine hideG fun zD zhD=>?_
    refine e2a1 (b2.nd p hpn) fun tn' tk' nd'=>?_
    refine e1a2 (b2.li p hpn) fun ls zs172 hli=>?_
    refine e1a1 zs172 fun nl hls=>?_
    refine zhD ?_
    clear zhD zD
    have hLm : ad.L p ∈ m:=hmm' _ (List.mem_append.mpr (.inr (hmm _ (ad.mutL hpn))))
    refine wpAny_execs_cons (wpAny_Expr (wpAny_Call_append rfl (by rfl) (by rfl) (by rfl) (Attribute_Name_ (wpAny_Name (v2.load (node_get SK G₂.sv.gl.k nd' SK.s0 (v:=.ref (ad.L p)) rfl rfl ⟨ad.L p,ls.toArray,rfl,⟨_,nl,hls,rfl,rfl,rfl⟩,?_⟩)) (by decide)) rfl)) hi rfl)
    refine hideG fun zD zhD=>?_
    refine e1a2 (G₂.vars "node" _ rfl) fun vn hvn rn=>?_
    refine e1a1 rn.int_inv fun tt zr173=>?_
    subst zr173
    refine zhD ?_
    clear zhD zD
    refine wpAny_Name (Var.load (s:={ u₁ with toks:=u₁.toks + 1 }) hvn ?_) (by decide)
    have hlen : ls.length ≤ 1000 + 2:=by
      rw [hli.length]
      have h2:=addSu_len k (ps.take i) su p
      have h3 : (ps.take i).length ≤ ps.length:=by rw [List.length_take]; exact Nat.min_le_right _ _
      have h4:=hsz p
      lia
    refine append_at (s:={ u₁ with toks:=u₁.toks + 1 }) (hsz:=by rw [List.size_toArray,sizeLine_eq]; lia) hls fun h7 hs7 ho7=>wpAny_execs_nil ?_
    have kb7 : ∀ b ob,b ≠ ad.L p→u₁.heap.get? b = some ob→h7.get? b = some ob:=hs7.extBut
    have c2:=b2.push hpn (i:=(k : Int)) (t:=tt) hLm hs7 hli ⟨nl + 1,by rw [ho7]; simp⟩
    have kb : Kb [ad.L p] u₁ { u₁ with heap:=h7,toks:=u₁.toks + 1 }:=⟨h7,_,rfl,fun b ob hb e=>kb7 b ob (fun q=>hb (q ▸ .head _)) e⟩
    have kL : ∀ b ∈ [ad.L p],¬ Loc env b:=fun b hb=>by rcases List.mem_cons.mp hb with rfl | hb; exact mL _ (ad.mutL hpn); cases hb
    refine ⟨?_,⟨Var.kb b1 kb kL,?_⟩,?_⟩
    · refine G₂.turn (fun _ hb=>hb) (fun _ hb=>.inl hb) (fun b hb=>?_) (fun b ob hb e=>kb7 b ob (fun q=>mL _ (ad.mutL hpn) (q ▸ hb (q ▸ hLm))) e) fun b ob e=>kb7 b ob (fun q=>?_) (Keeps.ext G₂.keep b ob e)
      · by_cases q : b = ad.L p
        · exact ⟨_,q ▸ ho7⟩
        · obtain ⟨ob,e⟩:=G₂.mex b hb; exact ⟨ob,kb7 b ob q e⟩
      · exact (hid_not e).1 (q ▸ ad.mutL hpn)
    · have et : ps.take (i + 1) = ps.take i ++ [p]:=by rw [List.take_add_one,hp]; rfl
      rw [et,addSu_snoc]; exact c2
    · exact Kx.trans (Kx.ofKl k2) ((Kx.ofKb kb kL).mono (fun _ h=>h) fun b hb=>by rcases List.mem_cons.mp hb with rfl | hb; exact ad.mutL hpn; cases hb)
  · intro s₇ F₇ zi140 _
    refine e0a2 zi140 fun a1 a2=>?_
    rw [List.length_map,List.take_length] at a2
    refine wpAny_execs_nil (h s₇ ?_ (a2.hide fun b hb=>.inl (List.mem_append.mpr (.inr hb))))
    exact hidS_kb F₇.keep
end
end Mine
namespace Mine
open PySem PySem.W PyProof.Rows PySem.Calls
section
variable {prog : Program} {w : World} {K : Frag} {mg mb : Str→Option Value} {A : Around} {env : Env} {s s0 : Shared} {E : Value→Shared→Prop} {ad : SoAd} {x : SoTk} {n : Nat} {np : Nat→Int} {su : Nat→List Int} {mt : List Addr} {ρ : List (Str × PyData)} {Q : Flow→Shared→Prop}
theorem updF_idem {α : Type} (f : Nat→α) (n : Nat) (v w : α) : updF (updF f n v) n w = updF f n w:=by
  funext k; by_cases h : k = n <;> simp [updF,h]
set_option maxHeartbeats 4000000 in
theorem add_new {doc : Value} {t : Tok} {Q : Value→Shared→Prop} (N : Nm mg mb) (NS : NmS mg K) (NN : NodeNew prog w K) (SK : SoK K) (SM : SoM K) (H : FnAt K 211 (fdAdd doc)) (hA : Aok 2 A) (hd : A.depth ≤ 700) (hu : A.units ≤ 900) (G : Gl K mg mb (hideAll s.heap [ad.N])) (o : SoA prog w ad x n np su mt s.heap) (hmm : ∀ b ∈ ad.mut n,b ∈ mt) (hex : ∀ a ∈ mt,∃ o,s.heap.get? a = some o) (hn : n < 1000)
    (h : ∀ s' I L,Kb [ad.N] s s'→s.heap.get? I = none→s.heap.get? L = none→(∃ o,s'.heap.get? I = some o)→(∃ o,s'.heap.get? L = some o)→SoA prog w (ad.put n I L) x (n + 1) (updF np n 0) (updF su n []) (I :: L :: mt) s'.heap→Q .none s') :
    wpAny (model prog w) A (call (.ref 211) [.ref ad.S,.int (n : Nat) t]) Q E s:=by
  refine wpAny_call (add_enter (ps:=[]) (hid:=[ad.N]) H hA G (fun b hb=>by rcases List.mem_cons.mp hb with rfl | hb; exact hmm _ (ad.mutN n); cases hb) o hmm hex .nil (by decide) fun s₂ env k02 hA1 kd hi F V o2 mL locN=>?_)
  have hd1 : (A.deeper env).depth ≤ 800:=by show A.depth + 1 ≤ 800; lia
  have hu1 : (A.deeper env).units ≤ 1000:=by show A.units + 3 ≤ 1000; lia
  revert hu1
  revert hd1
  revert hA1
  refine genA (A.deeper env) fun A' hA1 hd1 hu1=>?_
  have hA0 : Aok 0 A':=hA1.le (by decide)
  have hm : ∀ b,Loc env b→b ∈ mtOf env ++ mt:=fun b hb=>(F.locs b hb).1
  refine ex_docK F hi fun s₃ F₃ k3=>?_
  have V3:=V.ext (Keeps.ext k3)
  have o3:=o2.ext (Keeps.ext k3)
  refine hideG fun zD zhD=>?_
  refine e2a1 o3.s fun pp ff os3=>?_
  refine zhD ?_
  clear zhD zD
  refine ex_ifR F₃ (b:=false) (wpAny_isTrue_Compare1 (so_attr SK F₃.sv.gl.k V3 os3.hid SK.n2 get_ready rfl (wpAny_Constant_none (isnot_none_gen (wpAny_truthy_bool ⟨rfl,Keeps.tok _⟩)))) (by with_unfolding_all rfl)) (fun e=>nomatch e) fun _ s₄ F₄ k4=>wpAny_execs_nil ?_
  have V4:=V3.ext (Keeps.ext k4)
  have o4:=o3.ext (Keeps.ext k4)
  refine hideG fun zD zhD=>?_
  refine e2a1 o4.s fun pp4 ff4 os4=>?_
  refine e1a2 (F₄.vars "node" _ rfl) fun vn hvn rn=>?_
  refine e1a1 rn.int_inv fun tn zr81=>?_
  subst zr81
  refine zhD ?_
  clear zhD zD
  have G4 : Gl K mg mb (hideAll s₄.heap [ad.N]):=F₄.gl0.ext fun b ob e=>hideAll_get _ (Keeps.ext F₄.keep b ob e) fun hb=>by
    rcases List.mem_cons.mp hb with rfl | hb
    · exact (hid_not e).1 (.head _)
    · cases hb
  refine wpAny_execs_cons (wpAny_Assign_Name (so_call SK F₄.sv.gl.k V4 os4.hid SM.info.1 SM.info.2.1 rfl rfl sh_info (args1 (wpAny_Name (hvn.load ⟨rfl,F₄.sv.gl.k,?_⟩) (by decide))) (by rfl)) (by rfl))
  refine info_new SM.info.2 SK NS NN hA1 hd1 hu1 G4 o4 (List.mem_append.mpr (.inr (hmm _ (ad.mutN n)))) F₄.mex hn fun s₅ I L kN iN lN eI eL o5=>?_
  have none0 : ∀ b,s₄.heap.get? b = none→s.heap.get? b = none:=fun b e=>by
    cases q : s.heap.get? b with
    | none=>rfl
    | some ob =>
      have:=Keeps.ext k4 _ _ (Keeps.ext k3 _ _ (k02.ext b ob (by simp) q))
      rw [e] at this; cases this
  have hNm : ad.N ∈ mtOf env ++ mt:=List.mem_append.mpr (.inr (hmm _ (ad.mutN n)))
  have mem5 : ∀ b ∈ I :: L :: (mtOf env ++ mt),b ∈ mtOf env ++ mt ∨ s₄.heap.get? b = none:=fun b hb=>by
    rcases List.mem_cons.mp hb with rfl | hb
    · exact .inr iN
    · rcases List.mem_cons.mp hb with rfl | hb
      · exact .inr lN
      · exact .inl hb
  refine hideG fun zD zhD=>?_
  refine e2a2 (id kN) fun h5 t5 e5 q5=>?_
  refine zhD ?_
  clear zhD zD
  have F₅ : Fm K mg mb (hidS s [ad.N]) env (I :: L :: (mtOf env ++ mt)) [("node",.int (n : Nat)),("predecessors",.tuple (([] : List Nat).map fun p : Nat=>.int (p : Nat)))] s₅:=by
    rw [e5]
    refine F₄.turn (fun b hb=>.tail _ (.tail _ hb)) mem5 (fun b hb=>?_) (fun b ob hb e=>q5 b ob (fun q=>?_) e) (fun b ob e=>q5 b ob (fun q=>?_) (Keeps.ext F₄.keep b ob e))
    · rw [e5] at eI eL
      rcases List.mem_cons.mp hb with rfl | hb
      · exact eI
      · rcases List.mem_cons.mp hb with rfl | hb
        · exact eL
        · by_cases q : b = ad.N
          · refine hideG fun zD zhD=>?_
            refine e3a2 o5.d fun oN _ _ e _=>?_
            refine zhD ?_
            clear zhD zD
            rw [e5] at e
            exact ⟨oN,q ▸ e⟩
          · refine hideG fun zD zhD=>?_
            refine e1a1 (F₄.mex b hb) fun ob e=>?_
            refine zhD ?_
            clear zhD zD
            exact ⟨ob,q5 b ob (by simpa using q) e⟩
    · rcases List.mem_cons.mp q with rfl | q
      · exact mL _ (ad.mutN n) (hb (.tail _ (.tail _ hNm)))
      · cases q
    · rcases List.mem_cons.mp q with rfl | q
      · exact (hid_not e).1 (.head _)
      · cases q
  have V5 : Var env s₅.heap "self" (.ref ad.S):=Var.kb V4 kN fun b hb=>by rcases List.mem_cons.mp hb with rfl | hb; exact mL _ (ad.mutN n); cases hb
  have mL5 : ∀ b ∈ (ad.put n I L).mut (n + 1),¬ Loc env b:=fun b hb hl=>by
    have hb0 : b ∈ ad.mut n ∨ b = I ∨ b = L:=by
      rcases List.mem_cons.mp hb with rfl | hb
      · exact .inl (ad.mutN n)
      · rcases List.mem_append.mp hb with hb | hb
        · refine hideG fun zD zhD=>?_
          refine e1a2 (List.mem_map.mp hb) fun k hk zr82=>?_
          subst zr82
          refine zhD ?_
          clear zhD zD
          have hk':=List.mem_range.mp hk
          by_cases q : k = n
          · subst q; right; left; exact updF_at _ _ _
          · left
            show updF ad.I n I k ∈ _
            rw [updF_ne _ _ q]; exact ad.mutI (by lia)
        · refine hideG fun zD zhD=>?_
          refine e1a2 (List.mem_map.mp hb) fun k hk zr83=>?_
          subst zr83
          refine zhD ?_
          clear zhD zD
          have hk':=List.mem_range.mp hk
          by_cases q : k = n
          · subst q; right; right; exact updF_at _ _ _
          · left
            show updF ad.L n L k ∈ _
            rw [updF_ne _ _ q]; exact ad.mutL (by lia)
    rcases hb0 with q | rfl | rfl
    · exact mL _ q hl
    · refine hideG fun zD zhD=>?_
      refine e1a1 (F₄.mex _ (F₄.locs _ hl).1) fun ob e=>?_
      refine zhD ?_
      clear zhD zD
      rw [iN] at e; cases e
    · refine hideG fun zD zhD=>?_
      refine e1a1 (F₄.mex _ (F₄.locs _ hl).1) fun ob e=>?_
      refine zhD ?_
      clear zhD zD
      rw [lN] at e; cases e
  refine F₅.storeV (.inl (by rw [kd]; kernel_rfl)) [("predecessors",.tuple (([] : List Nat).map fun p : Nat=>.int (p : Nat)))] ⟨rfl,trivial⟩ rfl fun s₆ F₆ v6 k6=>?_
  have hm5 : ∀ b,Loc env b→b ∈ I :: L :: (mtOf env ++ mt):=fun b hb=>(F₅.locs b hb).1
  have V6:=k6.var _ _ (by decide) V5
  have o6:=o5.kl k6 hm5 mL5
  have eIn : (ad.put n I L).I n = I:=updF_at _ _ _
  refine hideG fun zD zhD=>?_
  refine e2a1 (o6.nd n (Nat.lt_succ_self n)) fun tn6 tk6 nd6=>?_
  refine zhD ?_
  clear zhD zD
  rw [updF_at,eIn] at nd6
  refine hideG fun zD zhD=>?_
  refine e1a2 (F₆.vars "predecessors" _ rfl) fun vp hvp rp=>?_
  refine e3a4 rp.tuple_inv fun T us nT zr84 _ hT rT=>?_
  subst zr84
  refine zhD ?_
  clear zhD zD
  have hul : us.length = 0:=by simpa using rT.length
  have hIm : I ∈ I :: L :: (mtOf env ++ mt):=.head _
  have hIL : ¬ Loc env I:=by have:=mL5 _ ((ad.put n I L).mutI (Nat.lt_succ_self n)); rw [eIn] at this; exact this
  refine wpAny_execs_cons (wpAny_AugAssign_AttributeAny (wpAny_Name (v6.load (node_get SK F₆.sv.gl.k nd6 SK.s1 (v:=.int 0 tn6) rfl rfl ?_)) (by decide)))
  refine Call_Name rfl (nm_b (F₆.keeps (Keeps.tok _)).sv (by rw [kd]; kernel_rfl) N.len.1 N.len.2 (callWith_builtin rfl (args1 (wpAny_Name (Var.load (s:={ s₆ with toks:=s₆.toks + 1 }) hvp ?_) (by decide)))))
  refine len_tuple (s:={ s₆ with toks:=s₆.toks + 1 }) (items:=us.toArray) (tup_is hT) (by rw [List.size_toArray,hul]; lia) ?_
  rw [List.size_toArray,hul]
  refine iadd_int ?_
  refine node_set (s:={ s₆ with toks:=s₆.toks + 1 + 1 + 1 + 1 }) SK F₆.sv.gl.k nd6 hIm fun h7 tk7 nd7 hs7=>?_
  have kb7 : ∀ b ob,b ≠ I→s₆.heap.get? b = some ob→h7.get? b = some ob:=hs7.extBut
  have o7 : SoA prog w (ad.put n I L) x (n + 1) (updF np n 0) (updF su n []) (I :: L :: (mtOf env ++ mt)) h7:=by
    have:=o6.setNp (k:=n) (v:=0) (t:=s₆.toks + 1 + 1 + 1) (t':=tk6) (h':=h7) (Nat.lt_succ_self n) (by rw [eIn]; exact hIm) (by rw [eIn]; exact hs7) (by rw [eIn]; exact nd7)
    rw [updF_idem] at this
    exact this
  have iN0 : (hidS s [ad.N]).heap.get? I = none:=by
    show (hideAll s.heap [ad.N]).get? I = none
    cases q : (hideAll s.heap [ad.N]).get? I with
    | none=>rfl
    | some ob=>have:=of_hideAll _ q; rw [none0 I iN] at this; cases this
  have F₇ : Fm K mg mb (hidS s [ad.N]) env (I :: L :: (mtOf env ++ mt)) [("predecessors",.tuple (([] : List Nat).map fun p : Nat=>.int (p : Nat)))] { s₆ with heap:=h7,toks:=tk7 }:=by
    refine F₆.turn (fun _ hb=>hb) (fun _ hb=>.inl hb) (fun b hb=>?_) (fun b ob hb e=>kb7 b ob (fun q=>hIL (q ▸ hb (q ▸ hIm))) e) fun b ob e=>kb7 b ob (fun q=>?_) (Keeps.ext F₆.keep b ob e)
    · by_cases q : b = I
      · obtain ⟨dx,e,_⟩:=nd7.at_; exact ⟨_,q ▸ e⟩
      · obtain ⟨ob,e⟩:=F₆.mex b hb; exact ⟨ob,kb7 b ob q e⟩
    · rw [q,iN0] at e; cases e
  refine ex_forX ["pred"] ["pred_info"] ((ad.put n I L).mut (n + 1)) (fun d=>[("pred",d)]) (fun _=>[("predecessors",.tuple (([] : List Nat).map fun p : Nat=>.int (p : Nat)))]) (fun i m u=>SoA prog w (ad.put n I L) x (n + 1) (updF np n 0) (updF su n []) m u.heap) F₇
    o7 ?_ mL5 (src_tuple (ds:=[]) hA1.hd (pe_name _ rfl)) (fun d _=>tgtF_name (.inl (by rw [kd]; kernel_rfl))) ⟨rfl,trivial⟩ ?_ ?_ ?_
  · intro b hb
    rcases List.mem_cons.mp hb with rfl | hb
    · exact .tail _ (.tail _ hNm)
    · rcases List.mem_append.mp hb with hb | hb
      · refine hideG fun zD zhD=>?_
        refine e1a2 (List.mem_map.mp hb) fun k hk zr85=>?_
        subst zr85
        refine zhD ?_
        clear zhD zD
        have hk':=List.mem_range.mp hk
        by_cases q : k = n
        · subst q; rw [eIn]; exact .head _
        · show updF ad.I n I k ∈ _
          rw [updF_ne _ _ q]; exact .tail _ (.tail _ (List.mem_append.mpr (.inr (hmm _ (ad.mutI (by lia))))))
      · refine hideG fun zD zhD=>?_
        refine e1a2 (List.mem_map.mp hb) fun k hk zr86=>?_
        subst zr86
        refine zhD ?_
        clear zhD zD
        have hk':=List.mem_range.mp hk
        by_cases q : k = n
        · subst q
          show updF ad.L k L k ∈ _
          rw [updF_at]; exact .tail _ (.head _)
        · show updF ad.L n L k ∈ _
          rw [updF_ne _ _ q]; exact .tail _ (.tail _ (List.mem_append.mpr (.inr (hmm _ (ad.mutL (by lia))))))
  · intro i m₁ m₂ u₁ u₂ a mv
    exact a.mv mv fun b hb=>hb
  · intro i d m u hd
    simp at hd
  · intro s₈ F₈ a8 _
    refine wpAny_execs_nil (h s₈ I L (hidS_kb F₈.keep) (none0 I iN) (none0 L lN) (F₈.mex _ (.head _)) (F₈.mex _ (.tail _ (.head _))) (a8.hide fun b hb=>.inl ?_))
    rcases List.mem_cons.mp hb with rfl | hb
    · exact .head _
    · rcases List.mem_cons.mp hb with rfl | hb
      · exact .tail _ (.head _)
      · exact .tail _ (.tail _ (List.mem_append.mpr (.inr hb)))
end
end Mine
namespace Mine
open PySem PySem.W PyProof.Rows PySem.Calls
structure SoB (prog : Program) (w : World) (ad : SoAd) (x : SoTk) (n : Nat) (np : Nat→Int) (sn : Nat→List Nat) (rv : Value) (po fi : Int) (mt : List Addr) (h : Heap) : Prop where
  s : (hideAll h mt).get? ad.S = some { cls:=.ref 261,dict:=some ad.D }
  d : ∃ t t',h.get? ad.D = some (soDict x ad.N rv (.int po t) (.int fi t'))
  N : (hideAll h mt).DictOf (intKind prog w) ad.N (nodePairs ad.I n)
  nd : ∀ k,k < n→∃ t t',NodeAt (ad.I k) (ad.L k) (.int (np k) t) (.int (k : Nat) t') mt h
  li : ∀ k,k < n→Rp h mt (.ref (ad.L k)) (.list ((sn k).map fun j : Nat=>.int (j : Nat)))
  lo : (ad.N == sysModules) = false
noncomputable def SoAd.mutB (ad : SoAd) (n : Nat) : List Addr:=ad.D :: (List.range n).map ad.I
theorem SoAd.mbD (ad : SoAd) (n : Nat) : ad.D ∈ ad.mutB n:=.head _
theorem SoAd.mbI (ad : SoAd) {n k : Nat} (h : k < n) : ad.I k ∈ ad.mutB n:=.tail _ (List.mem_map.mpr ⟨k,List.mem_range.mpr h,rfl⟩)
noncomputable def Rl (R : Addr) (l : List Nat) (h : Heap) : Prop:=∃ vs : List Value,h.PlainList R vs.toArray∧IntsAre vs (l.map fun j : Nat=>(j : Int))
theorem Rl.at' {R : Addr} {l : List Nat} {h h' : Heap} (o : Rl R l h) (k : ∀ ob,h.get? R = some ob→h'.get? R = some ob) : Rl R l h':=let ⟨vs,a,b⟩:=o; ⟨vs,a.at k,b⟩
section
variable {prog : Program} {w : World} {ad : SoAd} {x : SoTk} {n : Nat} {np : Nat→Int} {sn : Nat→List Nat} {rv : Value} {po fi : Int} {mt mt' ws ms : List Addr} {h h' : Heap} {s s' : Shared} {env : Env} {xs : List Str}
theorem SoB.by (o : SoB prog w ad x n np sn rv po fi mt h) (hu : ∀ b ∈ ad.mutB n,∀ ob,h.get? b = some ob→h'.get? b = some ob)
    (hk : ∀ b ob,b ∉ mt→h.get? b = some ob→h'.get? b = some ob) (hm : ∀ b ∈ mt',b ∈ mt ∨ h.get? b = none) : SoB prog w ad x n np sn rv po fi mt' h':=by
  have hh:=hid_mono hk hm
  exact ⟨hh _ _ o.s,let ⟨t,t',e⟩:=o.d; ⟨t,t',hu _ (ad.mbD n) _ e⟩,o.N.at fun ob e=>hh _ _ e,fun k hkn=>let ⟨t,t',a⟩:=o.nd k hkn; ⟨t,t',a.move (fun ob e=>hu _ (ad.mbI hkn) _ e) hk hm⟩,
    fun k hkn=>(o.li k hkn).mono hk hm,o.lo⟩
theorem SoB.ext (o : SoB prog w ad x n np sn rv po fi mt h) (hk : ∀ b ob,h.get? b = some ob→h'.get? b = some ob) : SoB prog w ad x n np sn rv po fi mt h':=o.by (fun b _ ob=>hk b ob) (fun b ob _=>hk b ob) fun _ hb=>.inl hb
theorem SoB.kl (o : SoB prog w ad x n np sn rv po fi mt s.heap) (k : Kl env xs s s') (hm : ∀ b,Loc env b→b ∈ mt) (hL : ∀ b ∈ ad.mutB n,¬ Loc env b) : SoB prog w ad x n np sn rv po fi mt s'.heap :=
  o.by (fun b hb ob e=>k.ext b ob (hL b hb) e) (fun b ob hb e=>k.ext b ob (fun hl=>hb (hm b hl)) e) fun _ hb=>.inl hb
theorem SoB.kb (o : SoB prog w ad x n np sn rv po fi mt s.heap) (k : Kb ws s s') (hw : ∀ b ∈ ws,b ∈ mt) (hd : ∀ b ∈ ad.mutB n,b ∉ ws) : SoB prog w ad x n np sn rv po fi mt s'.heap :=
  o.by (fun b hb ob e=>k.ext b ob (hd b hb) e) (fun b ob hb e=>k.ext b ob (fun q=>hb (hw b q)) e) fun _ hb=>.inl hb
theorem SoB.mv (o : SoB prog w ad x n np sn rv po fi mt s.heap) (m : Mv env xs ms mt mt' s s') (hms : ∀ b ∈ ad.mutB n,b ∈ ms) : SoB prog w ad x n np sn rv po fi mt' s'.heap :=
  o.by (fun b hb ob e=>m.keep b ob (fun _=>hms b hb) e) (fun b ob hb e=>m.keep b ob (fun q=>absurd q hb) e) m.hid
theorem SoB.hide (o : SoB prog w ad x n np sn rv po fi mt h) (hm : ∀ b ∈ mt',b ∈ mt ∨ h.get? b = none) : SoB prog w ad x n np sn rv po fi mt' h:=o.by (fun _ _ _ e=>e) (fun _ _ _ e=>e) hm
theorem SoB.sos (o : SoB prog w ad x n np sn rv po fi mt h) : ∃ t t',SoS ad.S ad.D ad.N x rv (.int po t) (.int fi t') h:=let ⟨t,t',e⟩:=o.d; ⟨t,t',of_hideAll _ o.s,e⟩
theorem SoB.dict (o : SoB prog w ad x n np sn rv po fi mt h) : h.DictOf (intKind prog w) ad.N (nodePairs ad.I n):=o.N.at fun _ e=>of_hideAll _ e
theorem SoB.mutEx (o : SoB prog w ad x n np sn rv po fi mt h) : ∀ b ∈ ad.mutB n,∃ ob,h.get? b = some ob:=fun b hb=>by
  rcases List.mem_cons.mp hb with rfl | hb
  · obtain ⟨t,t',e⟩:=o.d; exact ⟨_,e⟩
  · obtain ⟨k,hk,rfl⟩:=List.mem_map.mp hb
    obtain ⟨t,t',dx,e,_⟩:=o.nd k (List.mem_range.mp hk)
    exact ⟨_,e⟩
theorem SoB.II (o : SoB prog w ad x n np sn rv po fi mt h) {j k : Nat} (hj : j < n) (hk : k < n) (e : ad.I j = ad.I k) : j = k:=by
  obtain ⟨t,t',dx,e1,_⟩:=o.nd j hj
  obtain ⟨u,u',dy,e2,_⟩:=o.nd k hk
  rw [e,e2] at e1
  simp only [nodeObj,Option.some.injEq,Obj.mk.injEq,Array.mk.injEq,List.cons.injEq,Value.int.injEq,and_true,true_and] at e1
  lia
theorem SoB.DI (o : SoB prog w ad x n np sn rv po fi mt h) {k : Nat} (hk : k < n) : ad.D ≠ ad.I k:=fun e=>by
  obtain ⟨t,t',dx,e1,_⟩:=o.nd k hk
  obtain ⟨u,u',e2⟩:=o.d
  rw [e,e1] at e2
  simp [nodeObj,soDict,dictOf] at e2
theorem SoB.setNp (o : SoB prog w ad x n np sn rv po fi mt h) {k : Nat} (hk : k < n) {v : Int} {t t' : Tok} (hI : ad.I k ∈ mt) (hs : Heap.SameBut (ad.I k) h h') (a : NodeAt (ad.I k) (ad.L k) (.int v t) (.int (k : Nat) t') mt h') : SoB prog w ad x n (updF np k v) sn rv po fi mt h':=by
  have kb : ∀ b ob,b ≠ ad.I k→h.get? b = some ob→h'.get? b = some ob:=hs.extBut
  have km : ∀ b ob,b ∉ mt→h.get? b = some ob→h'.get? b = some ob:=fun b ob hb e=>kb b ob (fun q=>hb (q ▸ hI)) e
  have hh:=hid_mono km (fun b (hb : b ∈ mt)=>.inl hb)
  refine ⟨hh _ _ o.s,let ⟨t,t',e⟩:=o.d; ⟨t,t',kb _ _ (o.DI hk) e⟩,o.N.at fun ob e=>hh _ _ e,fun j hj=>?_,fun j hj=>(o.li j hj).mono km fun _ hb=>.inl hb,o.lo⟩
  by_cases q : j = k
  · subst q; exact ⟨t,t',by rw [updF_at]; exact a⟩
  · refine e2a1 (o.nd j hj) fun u u' b=>?_
    exact ⟨u,u',by rw [updF_ne _ _ q]; exact b.move (fun ob e=>kb _ ob (fun z=>q (o.II hj hk z)) e) km fun _ hb=>.inl hb⟩
theorem SoB.setD (o : SoB prog w ad x n np sn rv po fi mt h) {rv' : Value} {po' fi' : Int} {t t' : Tok} (hD : ad.D ∈ mt) (hs : Heap.SameBut ad.D h h') (e : h'.get? ad.D = some (soDict x ad.N rv' (.int po' t) (.int fi' t'))) : SoB prog w ad x n np sn rv' po' fi' mt h':=by
  have kb : ∀ b ob,b ≠ ad.D→h.get? b = some ob→h'.get? b = some ob:=hs.extBut
  have km : ∀ b ob,b ∉ mt→h.get? b = some ob→h'.get? b = some ob:=fun b ob hb e=>kb b ob (fun q=>hb (q ▸ hD)) e
  have hh:=hid_mono km (fun b (hb : b ∈ mt)=>.inl hb)
  refine ⟨hh _ _ o.s,⟨t,t',e⟩,o.N.at fun ob e=>hh _ _ e,fun j hj=>?_,fun j hj=>(o.li j hj).mono km fun _ hb=>.inl hb,o.lo⟩
  obtain ⟨u,u',b⟩:=o.nd j hj
  exact ⟨u,u',b.move (fun ob e=>kb _ ob (Ne.symm (o.DI hj)) e) km fun _ hb=>.inl hb⟩
theorem SoB.RD (o : SoB prog w ad x n np sn rv po fi mt h) {R : Addr} {l : List Nat} (r : Rl R l h) : R ≠ ad.D:=fun e=>by
  obtain ⟨vs,⟨c,e1⟩,_⟩:=r
  obtain ⟨u,u',e2⟩:=o.d
  rw [e,e2] at e1
  simp [soDict,dictOf] at e1
theorem SoB.RI (o : SoB prog w ad x n np sn rv po fi mt h) {R : Addr} {l : List Nat} (r : Rl R l h) {k : Nat} (hk : k < n) : R ≠ ad.I k:=fun e=>by
  obtain ⟨vs,⟨c,e1⟩,_⟩:=r
  obtain ⟨t,t',dx,e2,_⟩:=o.nd k hk
  rw [e,e2] at e1
  simp [nodeObj] at e1
end
end Mine
namespace Mine
open PySem PySem.W PyProof.Rows PySem.Calls
structure NmT (mg : Str→Option Value) : Prop where
  out : ∃ t,mg "_NODE_OUT" = some (.int (-1) t)
  done : ∃ t,mg "_NODE_DONE" = some (.int (-2) t)
noncomputable def outF (np : Nat→Int) (l : List Nat) : Nat→Int:=l.foldl (fun np k=>updF np k (-1)) np
theorem outF_snoc (np : Nat→Int) (l : List Nat) (k : Nat) : outF np (l ++ [k]) = updF (outF np l) k (-1):=by unfold outF; rw [List.foldl_append]; rfl
section
variable {prog : Program} {w : World} {K : Frag} {mg mb : Str→Option Value} {A : Around} {env : Env} {s s0 : Shared} {E : Value→Shared→Prop} {mt hid : List Addr} {ρ : List (Str × PyData)}
theorem self_enter {f S : Addr} {fd : FuncData} {body : List Stmt} {Q : Value→Shared→Prop} (H : FnAt K f fd) (hdp : A.depth < recursionLimit) (hbody : fd.body = .stmts body)
    (G : Gl K mg mb (hideAll s.heap hid)) (hhm : ∀ b ∈ hid,b ∈ mt) (hex : ∀ a ∈ mt,∃ o,s.heap.get? a = some o)
    (hbind : bindArgs fd ⟨[.ref S],[]⟩ = pure ([("self",.ref S)] : List (Str × Value))) (hk : ∀ x ∈ (["self"] : List Str),fd.scope.names.lookup x = some .local ∨ fd.scope.names.lookup x = some .cell) (hc : ∀ L,(callEnvC fd L f).cells = [])
    (h : ∀ s₂ env,Keeps s s₂→env = callEnvC fd s.heap.objs.size f→Fm K mg mb (hidS s hid) env (mtOf env ++ mt) [] s₂→Var env s₂.heap "self" (.ref S)→(∀ b,Loc env b→s.heap.get? b = none)→(∀ b ∈ mtOf env ++ mt,b ∈ mt ∨ s.heap.get? b = none) →
      wpAny (model prog w) (A.deeper env) (execs body env) (fun fl s'=>Q (match fl with | .ret v=>v | _=>.none) s')
        (fun e s'=>wpAny (model prog w) (A.deeper env) (leaving env e) (fun _ s''=>E e s'') (fun e' s''=>E e' s'') s') s₂)
    (hclo : fd.closure = []:=by rfl) (hgl : fd.globals = mainGlobals:=by rfl) (hbl : fd.builtins = builtinsNs:=by rfl)
    (hco : fd.scope.isCoroutine = false:=by rfl) (hgen : fd.scope.isGenerator = false:=by rfl) (hkn : fd.scope.kind = .function:=by rfl) :
    wpAny (model prog w) A (call (.ref f) [.ref S]) Q E s:=by
  refine call_defP ["self"] (fd:=fd) (body:=body) (mg:=mg) (mb:=mb) (mt:=mt) (hid:=hid) hdp H.1 rfl H.2 hbody G hhm hex hbind rfl (by decide) hk (fun s₂ env k2 he hF hv=>?_) hclo hgl hbl hco hgen hkn
  have F:=hF [] (fun y d e=>nomatch e)
  have locN : ∀ b,Loc env b→s.heap.get? b = none:=fun b hl=>by
    cases q : s.heap.get? b with
    | none=>rfl
    | some ob =>
      exfalso
      have hlt:=Heap.lt_size q
      rcases hl with r | ⟨y,r⟩
      · rw [he] at r
        have : b = s.heap.objs.size:=r
        rw [this] at hlt; exact absurd hlt (Nat.lt_irrefl _)
      · rw [he,hc] at r; cases r
  refine h s₂ env k2 he F (hv _ _ (.head _)) locN fun b hb=>?_
  rcases List.mem_append.mp hb with q | q
  · right
    rcases List.mem_cons.mp q with rfl | q
    · exact locN _ (.inl rfl)
    · refine e1a2 (List.mem_map.mp q) fun pp hp zr392=>?_
      subst zr392
      refine e1a1 (lookup_of_mem hp) fun c' hc'=>?_
      rw [hc']
      exact locN _ (.inr ⟨_,hc'⟩)
  · exact .inl q
theorem dict_item {nm y : Str} {p1 p2 pos : Pos} {d : Addr} {kvs : List (Int × Value)} {k : Int} {t : Tok} {v : Value} {Q : Value→Shared→Prop} (hv : Var env s.heap nm (.ref d)) (hy : Var env s.heap y (.int k t)) (hm : s.heap.DictOf (intKind prog w) d kvs) (hl : valueAt kvs k = some v)
    (h : Q v { s with toks:=s.toks + 1 }) (h1 : (nm == ("__debug__" : Str)) = false:=by decide) (h2 : (y == ("__debug__" : Str)) = false:=by decide)
    (hs : subscripted (.Name y p2) false (.ref d) (.int k t) = operate [.ref d,.int k t] (getItem (.ref d) (.int k t)):=by with_unfolding_all rfl) (hg : ∀ r,letTemporaryGo (.Name nm p1) (.ref d) r = pure ():=by intro _; with_unfolding_all rfl) :
    wpAny (model prog w) A (eval (.Subscript (.Name nm p1) (.Name y p2) pos) env) Q E s :=
  Subscript_ (wpAny_Name (hv.load (wpAny_Name (hy.load (subscriptTail_builtin hm.typeIs slot_dict_getitem.lookup (wpAny_getItem_of (intKind_is prog w k t) hm.mapOf hl h) hs hg)) h2)) h1)
theorem Fm.hidTurn {a : Addr} {h' : Heap} {tk : Nat} (F : Fm K mg mb s0 env mt ρ s) (ha : a ∈ mt) (aL : ¬ Loc env a) (a0 : s0.heap.get? a = none) (kb : ∀ b ob,b ≠ a→s.heap.get? b = some ob→h'.get? b = some ob) (hex : ∃ o,h'.get? a = some o) :
    Fm K mg mb s0 env mt ρ { s with heap:=h',toks:=tk }:=by
  refine F.turn (fun _ hb=>hb) (fun _ hb=>.inl hb) (fun b hb=>?_) (fun b ob hb e=>kb b ob (fun q=>aL (q ▸ hb (q ▸ ha))) e) fun b ob e=>kb b ob (fun q=>by rw [q,a0] at e; cases e) (Keeps.ext F.keep b ob e)
  by_cases q : b = a
  · obtain ⟨o,e⟩:=hex; exact ⟨o,q ▸ e⟩
  · obtain ⟨ob,e⟩:=F.mex b hb; exact ⟨ob,kb b ob q e⟩
theorem Var.but {a : Addr} {h' : Heap} {tk : Nat} {y : Str} {v : Value} (V : Var env s.heap y v) (aL : ¬ Loc env a) (kb : ∀ b ob,b ≠ a→s.heap.get? b = some ob→h'.get? b = some ob) : Var env h' y v :=
  Var.kb (s₁:=s) (s₂:={ s with heap:=h',toks:=tk }) V (⟨h',tk,rfl,fun b ob hb e=>kb b ob (fun q=>hb (q ▸ .head _)) e⟩ : Kb [a] s { s with heap:=h',toks:=tk }) fun b hb=>by rcases List.mem_cons.mp hb with rfl | hb; exact aL; cases hb
theorem hidS_none {b : Addr} (h : b ∈ hid) : (hidS s hid).heap.get? b = none:=hideAll_none _ h
theorem Kx.but {a : Addr} {xs : List Str} {ms : List Addr} {h' : Heap} {tk : Nat} (ha : a ∈ ms) (aL : ¬ Loc env a) (kb : ∀ b ob,b ≠ a→s.heap.get? b = some ob→h'.get? b = some ob) : Kx env xs ms s { s with heap:=h',toks:=tk } :=
  (Kx.ofKb (⟨h',tk,rfl,fun b ob hb e=>kb b ob (fun q=>hb (q ▸ .head _)) e⟩ : Kb [a] s { s with heap:=h',toks:=tk }) fun b hb=>by rcases List.mem_cons.mp hb with rfl | hb; exact aL; cases hb).mono (fun _ h=>h) fun b hb=>by rcases List.mem_cons.mp hb with rfl | hb; exact ha; cases hb
theorem rl_clear {R : Addr} {l : List Nat} {Q : Value→Shared→Prop} (r : Rl R l s.heap) (hl : l.length ≤ 100000) (h : ∀ h',Rl R [] h'→Heap.SameBut R s.heap h'→Q .none { s with heap:=h' }) : wpAny (model prog w) A (call (.builtin "list.clear") [.ref R]) Q E s:=by
  refine e1a2 r fun vs zs393 hi=>?_
  refine e1a1 zs393 fun n ho=>?_
  have hz : vs.toArray.size ≤ sizeLine:=by rw [List.size_toArray,hi.length,List.length_map,sizeLine_eq]; lia
  refine call_meets PySem.F.slot_list_clear ⟨_,ho,rfl⟩ PySem.F.entry_list_clear (PySem.F.args_list_clear_1 _) (PySem.AutoSeq1.list_clear_list_0 R vs.toArray n hz) ⟨ho,?_⟩
  refine h _ ⟨[],⟨_,get?_update_seq (c := "list") ho (fun _=>#[])⟩,.nil⟩ (Heap.SameBut.update ..)
end
end Mine
namespace Mine
open PySem PySem.W PyProof.Rows PySem.Calls
section
variable {prog : Program} {w : World} {K : Frag} {mg mb : Str→Option Value} {A : Around} {s : Shared} {E : Value→Shared→Prop} {ad : SoAd} {x : SoTk} {n : Nat} {np : Nat→Int} {sn : Nat→List Nat} {po fi : Int} {mt : List Addr}
set_option maxHeartbeats 4000000 in
theorem ready_call {doc : Value} {l : List Nat} {Q : Value→Shared→Prop} (N : Nm mg mb) (NT : NmT mg) (SK : SoK K) (H : FnAt K 223 (fdReady doc)) (hA : Aok 1 A) (G : Gl K mg mb (hideAll s.heap (ad.R :: ad.mutB n))) (o : SoB prog w ad x n np sn (.ref ad.R) po fi mt s.heap) (r : Rl ad.R l s.heap)
    (hmm : ∀ b ∈ ad.R :: ad.mutB n,b ∈ mt) (hex : ∀ a ∈ mt,∃ o,s.heap.get? a = some o) (hl : ∀ k ∈ l,k < n) (hz : l.length ≤ 1000)
    (h : ∀ v s',Kb (ad.R :: ad.mutB n) s s'→Rp s'.heap mt v (.tuple (l.map fun k : Nat=>.int (k : Nat)))→SoB prog w ad x n (outF np l) sn (.ref ad.R) (po + (l.length : Nat)) fi mt s'.heap→Rl ad.R [] s'.heap→Q v s') :
    wpAny (model prog w) A (call (.ref 223) [.ref ad.S]) Q E s:=by
  refine self_enter (hid:=ad.R :: ad.mutB n) (mt:=mt) (body:=bodyOf (methAt 11 5)) H (by have:=hA.dp; lia) rfl G hmm hex (by kernel_rfl) (show ∀ x ∈ (["self"] : List Str),(scopeOf (methAt 11 5)).names.lookup x = some .local ∨ (scopeOf (methAt 11 5)).names.lookup x = some .cell from by decide +kernel) (fun L=>by kernel_rfl) fun s₂ env k2 he F V locN newm=>?_
  have hA1:=hA.deeper env
  have kd : ∀ y,env.kindOf y = (scopeOf (methAt 11 5)).names.lookup y:=fun y=>by rw [he]; rfl
  have hi : interactive env = false:=by rw [he]; kernel_rfl
  revert hA1
  refine genA (A.deeper env) fun A' hA1=>?_
  have hm : ∀ b,Loc env b→b ∈ mtOf env ++ mt:=fun b hb=>(F.locs b hb).1
  have exR : ∀ b ∈ ad.R :: ad.mutB n,∃ ob,s.heap.get? b = some ob:=fun b hb=>by
    rcases List.mem_cons.mp hb with rfl | hb
    · obtain ⟨vs,⟨c,e⟩,_⟩:=r; exact ⟨_,e⟩
    · exact o.mutEx b hb
  have mL : ∀ b ∈ ad.R :: ad.mutB n,¬ Loc env b:=fun b hb hl=>by
    refine hideG fun zD zhD=>?_
    refine e1a1 (exR b hb) fun ob e=>?_
    refine zhD ?_
    clear zhD zD
    rw [locN b hl] at e; cases e
  have mLB : ∀ b ∈ ad.mutB n,¬ Loc env b:=fun b hb=>mL b (.tail _ hb)
  have RL : ¬ Loc env ad.R:=mL _ (.head _)
  have hmE : ∀ b ∈ ad.R :: ad.mutB n,b ∈ mtOf env ++ mt:=fun b hb=>List.mem_append.mpr (.inr (hmm b hb))
  have o2:=(o.hide newm).ext (Keeps.ext k2)
  have r2:=r.at' (Keeps.ext k2 _)
  clear o r
  refine ex_docK F hi fun s₃ F₃ k3=>?_
  have V3:=V.ext (Keeps.ext k3)
  have o3:=o2.ext (Keeps.ext k3)
  have r3:=r2.at' (Keeps.ext k3 _)
  refine hideG fun zD zhD=>?_
  refine e2a1 o3.sos fun tp tf os3=>?_
  refine zhD ?_
  clear zhD zD
  refine ex_ifR F₃ (b:=false) (wpAny_isTrue_Compare1 (so_attr SK F₃.sv.gl.k V3 os3 SK.n2 get_ready rfl (wpAny_Constant_none (is_none_ne (by intro e; cases e) (wpAny_truthy_bool ⟨rfl,Keeps.tok _⟩)))) (by with_unfolding_all rfl)) (fun e=>nomatch e) fun _ s₄ F₄ k4=>wpAny_execs_nil ?_
  have V4:=V3.ext (Keeps.ext k4)
  have o4:=o3.ext (Keeps.ext k4)
  have r4:=r3.at' (Keeps.ext k4 _)
  refine hideG fun zD zhD=>?_
  refine e2a1 o4.sos fun tp4 tf4 os4=>?_
  refine e1a2 (id r4) fun vs zs73 hvi=>?_
  refine e1a1 zs73 fun c hR=>?_
  refine zhD ?_
  clear zhD zD
  have hvl : vs.length = l.length:=by rw [hvi.length,List.length_map]
  refine wpAny_execs_cons (wpAny_Assign_Name (Call_Name rfl (nm_b F₄.sv (by rw [kd]; kernel_rfl) N.tuple.1 N.tuple.2 (PyProof.Rows.callWith_type rfl (args1 (so_attr SK F₄.sv.gl.k V4 os4 SK.n2 get_ready rfl ?_))))) (by kernel_rfl))
  refine call_tuple_list (s:={ s₄ with toks:=s₄.toks + 1 }) (items:=vs.toArray) (hsz:=by rw [List.size_toArray,hvl,sizeLine_eq]; lia) ⟨_,hR,rfl,_,rfl⟩ fun h5 hk5=>?_
  have k5 : Keeps s₄ { s₄ with heap:=h5.push { cls:=.type "tuple",data:=.seq vs.toArray },toks:=s₄.toks + 1 }:=⟨_,_,rfl,fun b ob e=>Heap.get?_push_of_some _ (hk5 b ob e)⟩
  have F₅:=F₄.keeps k5
  have tN : h5.objs.size ∉ mtOf env ++ mt:=fun hb=>by
    refine hideG fun zD zhD=>?_
    refine e1a1 (F₄.mex _ hb) fun ob e=>?_
    refine zhD ?_
    clear zhD zD
    exact Nat.lt_irrefl _ (Heap.lt_size (hk5 _ _ e))
  have rT : Rp (h5.push { cls:=.type "tuple",data:=.seq vs.toArray }) (mtOf env ++ mt) (.ref h5.objs.size) (.tuple (l.map fun k : Nat=>.int (k : Nat))):=by
    refine .mkTuple (Heap.get?_push_size _ rfl) tN ?_
    have:=RpA.ofInts (h:=h5.push { cls:=.type "tuple",data:=.seq vs.toArray }) (mt:=mtOf env ++ mt) hvi
    rw [List.map_map] at this
    exact this
  refine F₅.store (.inl (by rw [kd]; kernel_rfl)) rT fun s₆ F₆ k6=>?_
  have V6:=k6.var _ _ (by decide) (V4.ext (Keeps.ext k5))
  have o6:=(o4.ext (Keeps.ext k5)).kl k6 hm mLB
  have r6:=(r4.at' (Keeps.ext k5 _)).at' fun ob e=>k6.ext _ ob RL e
  refine hideG fun zD zhD=>?_
  refine e2a1 o6.sos fun tp6 tf6 os6=>?_
  refine zhD ?_
  clear zhD zD
  refine wpAny_execs_cons (wpAny_Assign_Name (so_attr SK F₆.sv.gl.k V6 os6 SK.n1 get_n2i rfl ?_) (by kernel_rfl))
  refine (F₆.keeps (Keeps.tok (s₆.toks + 1))).storeV (.inl (by rw [kd]; kernel_rfl)) [("result",.tuple (l.map fun k : Nat=>.int (k : Nat)))] ⟨rfl,trivial⟩ rfl fun s₇ F₇ v7 k7=>?_
  have V7:=k7.var _ _ (by decide) (V6.ext (Keeps.ext (Keeps.tok (s₆.toks + 1))))
  have o7:=(o6.ext (Keeps.ext (Keeps.tok (s:=s₆) (s₆.toks + 1)))).kl k7 hm mLB
  have r7:=r6.at' fun ob e=>k7.ext _ ob RL e
  refine ex_forX ["node"] [] (ad.R :: ad.mutB n) (fun d=>[("node",d)]) (fun _=>[("result",.tuple (l.map fun k : Nat=>.int (k : Nat)))]) (fun i m u=>(Var env u.heap "self" (.ref ad.S)∧Var env u.heap "n2i" (.ref ad.N))∧SoB prog w ad x n (outF np (l.take i)) sn (.ref ad.R) po fi m u.heap∧Rl ad.R l u.heap) F₇
    ⟨⟨V7,v7⟩,by simpa [outF] using o7,r7⟩ hmE mL (src_tuple (ds:=l.map fun k : Nat=>.int (k : Nat)) hA1.hd (pe_name _ rfl)) (fun d _=>tgtF_name (.inl (by rw [kd]; kernel_rfl))) ⟨rfl,trivial⟩ ?_ ?_ ?_
  · intro i m₁ m₂ u₁ u₂ zi70 mv
    refine e0a3 zi70 fun zs74 a3 a4=>?_
    refine e0a2 zs74 fun a1 a2=>?_
    exact ⟨⟨mv.var _ _ (by decide) a1,mv.var _ _ (by decide) a2⟩,a3.mv mv fun b hb=>.tail _ hb,a4.at' fun ob e=>mv.keep _ ob (fun _=>.head _) e⟩
  · intro i d m u hd hmm' G₁ zi71
    refine e0a3 zi71 fun zs75 a3 a4=>?_
    refine e0a2 zs75 fun a1 a2=>?_
    rw [List.getElem?_map] at hd
    refine hideG fun zD zhD=>?_
    refine e1a2 (Option.map_eq_some_iff.mp hd) fun k hk zr76=>?_
    subst zr76
    have hkn : k < n:=hl k (List.mem_of_getElem? hk)
    refine e1a2 (G₁.vars "node" _ rfl) fun vn hvn rn=>?_
    refine e1a1 rn.int_inv fun tn zr77=>?_
    subst zr77
    refine e1a1 NT.out fun to hto=>?_
    refine e2a1 (a3.nd k hkn) fun t1 t2 nd=>?_
    refine zhD ?_
    clear zhD zD
    have hIm : ad.I k ∈ m:=hmm' _ (hmE _ (.tail _ (ad.mbI hkn)))
    have hIL : ¬ Loc env (ad.I k):=mLB _ (ad.mbI hkn)
    refine wpAny_execs_cons (plainObj_wpAny_Assign_Attribute (nm_g G₁.sv (by rw [kd]; kernel_rfl) hto (dict_item a2 hvn a3.dict (by rw [nodePairs_at,if_pos hkn]) ?_)) (by kernel_rfl))
    refine node_set (s:={ u with toks:=u.toks + 1 }) SK G₁.sv.gl.k nd hIm fun h' tk' nd' hs'=>wpAny_execs_nil ?_
    have kb : ∀ b ob,b ≠ ad.I k→u.heap.get? b = some ob→h'.get? b = some ob:=hs'.extBut
    have et : l.take (i + 1) = l.take i ++ [k]:=by rw [List.take_add_one,hk]; rfl
    refine ⟨(G₁.hidTurn (tk:=tk') hIm hIL (hidS_none (.tail _ (ad.mbI hkn))) kb (let ⟨dx,e,_⟩:=nd'.at_; ⟨_,e⟩)).to _ ⟨rfl,trivial⟩,⟨⟨a1.but (tk:=tk') hIL kb,a2.but (tk:=tk') hIL kb⟩,?_,?_⟩,Kx.but (.tail _ (ad.mbI hkn)) hIL kb⟩
    · rw [et,outF_snoc]
      exact a3.setNp hkn hIm hs' nd'
    · exact a4.at' fun ob e=>kb _ ob (a3.RI a4 hkn) e
  · intro s₈ F₈ zi72 _
    refine e0a3 zi72 fun zs78 o8 r8=>?_
    refine e0a2 zs78 fun V8 v8=>?_
    rw [List.length_map,List.take_length] at o8
    refine hideG fun zD zhD=>?_
    refine e2a1 o8.sos fun tp8 tf8 os8=>?_
    refine zhD ?_
    clear zhD zD
    have hRm:=hmE _ (.head _)
    refine wpAny_execs_cons (wpAny_Expr (wpAny_Call_method rfl (by rfl) (by rfl) PySem.F.plainAttrs_list PySem.F.slot_list_clear PySem.F.type_list_clear (so_attr SK F₈.sv.gl.k V8 os8 SK.n2 get_ready rfl ?_)) hi rfl)
    refine hideG fun zD zhD=>?_
    refine e1a2 (id r8) fun us zs79 _=>?_
    refine e1a1 zs79 fun c8 hR8=>?_
    refine zhD ?_
    clear zhD zD
    refine ⟨⟨_,hR8,rfl⟩,fun b hb=>by cases hb; exact ⟨_,hR8,rfl⟩,?_⟩
    refine callWith_builtin rfl (evalArgs_nil3 ?_)
    refine rl_clear (s:={ s₈ with toks:=s₈.toks + 1 }) r8 (by lia) fun h9 r9 hs9=>?_
    have kb9 : ∀ b ob,b ≠ ad.R→s₈.heap.get? b = some ob→h9.get? b = some ob:=hs9.extBut
    have F₉:=F₈.hidTurn (h':=h9) (tk:=s₈.toks + 1) hRm RL (hidS_none (.head _)) kb9 (let ⟨_,⟨_,e⟩,_⟩:=r9; ⟨_,e⟩)
    have V9:=V8.but (tk:=s₈.toks + 1) RL kb9
    have k9 : Kb [ad.R] s₈ { s₈ with heap:=h9,toks:=s₈.toks + 1 }:=⟨h9,_,rfl,fun b ob hb e=>kb9 b ob (fun q=>hb (q ▸ .head _)) e⟩
    have o9:=o8.kb k9 (fun b hb=>by rcases List.mem_cons.mp hb with rfl | hb; exact hRm; cases hb) (fun b hb q=>by
      rcases List.mem_cons.mp q with rfl | q
      · rcases List.mem_cons.mp hb with e | hb
        · exact o8.RD r8 e
        · refine hideG fun zD zhD=>?_
          refine e1a2 (List.mem_map.mp hb) fun j hj e=>?_
          refine zhD ?_
          clear zhD zD
          exact o8.RI r8 (List.mem_range.mp hj) e.symm
      · cases q)
    refine hideG fun zD zhD=>?_
    refine e2a1 o9.sos fun tp9 tf9 os9=>?_
    refine zhD ?_
    clear zhD zD
    refine hideG fun zD zhD=>?_
    refine e1a2 (F₉.vars "result" _ rfl) fun vr hvr rr=>?_
    refine e3a4 rr.tuple_inv fun T ts nT zr80 _ hT rTs=>?_
    subst zr80
    refine zhD ?_
    clear zhD zD
    have htl : ts.length = l.length:=by simpa using rTs.length
    have hDm:=hmE _ (.tail _ (ad.mbD n))
    have DL:=mLB _ (ad.mbD n)
    refine wpAny_execs_cons (wpAny_AugAssign_AttributeAny (wpAny_Name (V9.load (so_get (s:={ s₈ with heap:=h9,toks:=s₈.toks + 1 }) SK F₉.sv.gl.k os9 SK.n3 get_passed rfl ?_)) (by decide)))
    refine Call_Name rfl (nm_b (F₉.keeps (Keeps.tok _)).sv (by rw [kd]; kernel_rfl) N.len.1 N.len.2 (callWith_builtin rfl (args1 (wpAny_Name (Var.load (s:={ s₈ with heap:=h9,toks:=s₈.toks + 1 + 1 }) hvr ?_) (by decide)))))
    refine len_tuple (s:={ s₈ with heap:=h9,toks:=s₈.toks + 1 + 1 }) (items:=ts.toArray) (tup_is hT) (by rw [List.size_toArray,htl]; lia) ?_
    rw [List.size_toArray,htl]
    refine iadd_int ?_
    refine so_set (s:={ s₈ with heap:=h9,toks:=s₈.toks + 1 + 1 + 1 + 1 + 1 }) SK F₉.sv.gl.k os9 SK.n3 any_passed (fun _ _=>put_passed _ _ _) fun h10 tk10 e10 hs10=>?_
    have kb10 : ∀ b ob,b ≠ ad.D→h9.get? b = some ob→h10.get? b = some ob:=hs10.extBut
    have F₁₀:=F₉.hidTurn (h':=h10) (tk:=tk10) hDm DL (hidS_none (.tail _ (ad.mbD n))) kb10 ⟨_,e10⟩
    have o10:=o9.setD hDm hs10 e10
    have r10 : Rl ad.R [] h10:=r9.at' fun ob e=>kb10 _ ob (o9.RD r9) e
    refine ex_ret (d:=.tuple (l.map fun k : Nat=>.int (k : Nat))) F₁₀ (pe_name _ rfl) fun v s' k' rv=>?_
    refine h v s' (hidS_kb (Keeps.trans' F₁₀.keep k')) (rv.hide fun b hb=>.inl (List.mem_append.mpr (.inr hb))) ((o10.ext (Keeps.ext k')).hide fun b hb=>.inl (List.mem_append.mpr (.inr hb))) (r10.at' (Keeps.ext k' _))
end
end Mine
namespace Mine
open PySem PySem.W PyProof.Rows PySem.Calls
noncomputable def decOne (st : (Nat→Int) × List Nat) (u : Nat) : (Nat→Int) × List Nat:=(updF st.1 u (st.1 u - 1),if st.1 u - 1 = 0 then st.2 ++ [u] else st.2)
noncomputable def decAll (st : (Nat→Int) × List Nat) (us : List Nat) : (Nat→Int) × List Nat:=us.foldl decOne st
noncomputable def doneOne (sn : Nat→List Nat) (st : (Nat→Int) × List Nat) (k : Nat) : (Nat→Int) × List Nat:=decAll (updF st.1 k (-2),st.2) (sn k)
noncomputable def doneAll (sn : Nat→List Nat) (st : (Nat→Int) × List Nat) (ks : List Nat) : (Nat→Int) × List Nat:=ks.foldl (doneOne sn) st
noncomputable def DoneOk (sn : Nat→List Nat) (st : (Nat→Int) × List Nat) (ks : List Nat) : Prop:=∀ i k,ks[i]? = some k→(doneAll sn st (ks.take i)).1 k = -1
theorem decAll_snoc (st : (Nat→Int) × List Nat) (us : List Nat) (u : Nat) : decAll st (us ++ [u]) = decOne (decAll st us) u:=by unfold decAll; rw [List.foldl_append]; rfl
theorem doneAll_snoc (sn : Nat→List Nat) (st : (Nat→Int) × List Nat) (us : List Nat) (u : Nat) : doneAll sn st (us ++ [u]) = doneOne sn (doneAll sn st us) u:=by unfold doneAll; rw [List.foldl_append]; rfl
theorem decAll_len : ∀ (us : List Nat) (st : (Nat→Int) × List Nat),(decAll st us).2.length ≤ st.2.length + us.length
  | [],st=>by simp [decAll]
  | u :: us,st=>by
    have h : decAll st (u :: us) = decAll (decOne st u) us:=rfl
    have ih:=decAll_len us (decOne st u)
    rw [h,List.length_cons]
    have : (decOne st u).2.length ≤ st.2.length + 1:=by
      show (if st.1 u - 1 = 0 then st.2 ++ [u] else st.2).length ≤ _
      by_cases q : st.1 u - 1 = 0
      · rw [if_pos q]; simp
      · rw [if_neg q]; lia
    lia
theorem doneAll_len {sn : Nat→List Nat} (hs : ∀ k,(sn k).length ≤ 1000) : ∀ (ks : List Nat) (st : (Nat→Int) × List Nat),(doneAll sn st ks).2.length ≤ st.2.length + 1000 * ks.length
  | [],st=>by simp [doneAll]
  | k :: ks,st=>by
    have h : doneAll sn st (k :: ks) = doneAll sn (doneOne sn st k) ks:=rfl
    have ih:=doneAll_len hs ks (doneOne sn st k)
    have h1 : (doneOne sn st k).2.length ≤ st.2.length + (sn k).length:=decAll_len (sn k) (updF st.1 k (-2),st.2)
    have:=hs k
    rw [h,List.length_cons]
    lia
theorem bind_done (doc a : Value) : ∀ (rest : List Value),rest.length ≤ 5→bindArgs (fdDone doc) ⟨a :: rest,[]⟩ = (newTuple rest >>= fun t=>pure ([("self",a),("nodes",t)] : List (Str × Value)))
  | [],_=>by kernel_rfl
  | [_],_=>by kernel_rfl
  | [_,_],_=>by kernel_rfl
  | [_,_,_],_=>by kernel_rfl
  | [_,_,_,_],_=>by kernel_rfl
  | [_,_,_,_,_],_=>by kernel_rfl
  | _ :: _ :: _ :: _ :: _ :: _ :: _,h=>by simp at h
section
variable {prog : Program} {w : World} {K : Frag} {mg mb : Str→Option Value} {A : Around} {s : Shared} {E : Value→Shared→Prop} {ad : SoAd} {x : SoTk} {n : Nat} {np : Nat→Int} {sn : Nat→List Nat} {po fi : Int} {mt : List Addr}
theorem Rl.push {R : Addr} {l : List Nat} {k : Nat} {t : Tok} {h' : Heap} {vs : List Value} (hi : IntsAre vs (l.map fun j : Nat=>(j : Int))) (he : h'.PlainList R (vs.toArray.push (.int (k : Nat) t))) : Rl R (l ++ [k]) h':=by
  refine ⟨vs ++ [.int (k : Nat) t],?_,?_⟩
  · rw [show (vs ++ [Value.int (k : Nat) t]).toArray = vs.toArray.push (.int (k : Nat) t) from by simp]; exact he
  · rw [List.map_append]; exact hi.append (.cons _ t .nil)
theorem dgetN {env : Env} {om nm : Str} {p p0 apos pos : Pos} {d : Addr} {kvs : List (Int × Value)} {k : Int} {t : Tok} {Q : Value→Shared→Prop} (hd : (d == sysModules) = false) (hm : s.heap.DictOf (intKind prog w) d kvs) (ho : Var env s.heap om (.ref d)) (hv : Var env s.heap nm (.int k t))
    (h : Q ((valueAt kvs k).getD .none) { s with toks:=s.toks + 1 }) (hline : (apos.endLine == pos.line) = true) (hdb : (nm == ("__debug__" : Str)) = false) (hdb2 : (om == ("__debug__" : Str)) = false) :
    wpAny (model prog w) A (eval (.Call (.Attribute (.Name om p0) "get" apos) [.Name nm p] [] pos) env) Q E s:=by
  refine wpAny_Call_method rfl ?_ hline PySem.F.plainAttrs_dict PySem.F.slot_dict_get PySem.F.type_dict_get (wpAny_Name (ho.load ?_) hdb2)
  · rfl
  refine ⟨hm.typeIs,hm.mapOf.noDict,?_⟩
  refine wpAny_dict_get1 (knd:=intKind prog w) hd (wpAny_Name (hv.load ?_) hdb)
  exact ⟨k,_,intKind_is prog w k t,hm.mapOf,h⟩
theorem done_enter {doc : Value} {ks : List Nat} {vs : List Value} {Q : Value→Shared→Prop} {hid : List Addr} {S : Addr} (H : FnAt K 244 (fdDone doc)) (hA : Aok 1 A) (G : Gl K mg mb (hideAll s.heap hid)) (hmm : ∀ b ∈ hid,b ∈ mt) (hex : ∀ a ∈ mt,∃ o,s.heap.get? a = some o)
    (hvs : IntsAre vs (ks.map fun p : Nat=>(p : Int))) (hl : ks.length ≤ 5)
    (h : ∀ s₂ env,Keeps s s₂→Aok 0 (A.deeper env)→(∀ y,env.kindOf y = (scopeOf (methAt 11 8)).names.lookup y)→interactive env = false →
      Fm K mg mb (hidS s hid) env (mtOf env ++ mt) [("nodes",.tuple (ks.map fun p : Nat=>.int (p : Nat)))] s₂→Var env s₂.heap "self" (.ref S)→(∀ b,Loc env b→s.heap.get? b = none)→(∀ b ∈ mtOf env ++ mt,b ∈ mt ∨ s.heap.get? b = none) →
      wpAny (model prog w) (A.deeper env) (execs (bodyOf (methAt 11 8)) env) (fun fl s'=>Q (match fl with | .ret v=>v | _=>.none) s') (fun _ _=>False) s₂) :
    codeAny (model prog w) A (.call (.ref 244) ⟨.ref S :: vs,[]⟩) (Rw Q E) s:=by
  have hvl : vs.length = ks.length:=by simpa using hvs.length
  refine call_defGC ["self","nodes"] (fun b s₁=>∃ T,b = ([("self",.ref S),("nodes",.ref T)] : List (Str × Value))∧s.heap.get? T = none∧s₁.heap.get? T = some { cls:=.type "tuple",data:=.seq vs.toArray }) (fd:=fdDone doc) (body:=bodyOf (methAt 11 8)) (mg:=mg) (mb:=mb) (mt:=mt) (hid:=hid) (by have:=hA.dp; lia) H.1 rfl H.2 rfl G hmm hex
    (fun E'=>?_) (by decide) (show ∀ x ∈ (["self","nodes"] : List Str),(scopeOf (methAt 11 8)).names.lookup x = some .local ∨ (scopeOf (methAt 11 8)).names.lookup x = some .cell from by decide +kernel) fun b s₁ s₂ env ⟨T,eb,tn,tg⟩ k1 k2 he hF hv=>?_
  · rw [bind_done doc _ vs (by lia)]
    unfold newTuple
    refine wpAny_bind (wpAny_newObj_type (wpAny_pure ⟨Keeps.push _,rfl,s.heap.objs.size,rfl,Heap.get?_none_of_le (Nat.le_refl _),Heap.get?_push_size _ rfl⟩) (by show vs.toArray.size ≤ sizeLine; rw [List.size_toArray,sizeLine_eq]; lia))
  · subst eb
    have k02:=Keeps.trans' k1 k2
    have hA1:=hA.deeper env
    have F:=hF [("nodes",.tuple (ks.map fun p : Nat=>.int (p : Nat)))] (fun y d e=>by
      rcases lookup_put e with ⟨rfl,rfl⟩ | ⟨_,e⟩
      · refine ⟨.ref T,.tail _ (.head _),.mkTuple tg (not_mt hex tn) ?_⟩
        have:=RpA.ofInts (h:=s₁.heap) (mt:=mt) hvs
        rw [List.map_map] at this
        exact this
      · cases e)
    have locN : ∀ b,Loc env b→s.heap.get? b = none:=fun b hl=>by
      have hz : s₁.heap.get? b = none:=by
        cases q : s₁.heap.get? b with
        | none=>rfl
        | some ob =>
          exfalso
          have hlt:=Heap.lt_size q
          rcases hl with r | ⟨y,r⟩
          · rw [he] at r
            have : b = s₁.heap.objs.size:=r
            rw [this] at hlt; exact absurd hlt (Nat.lt_irrefl _)
          · rw [he] at r
            have : (callEnvC (fdDone doc) s₁.heap.objs.size 244).cells = []:=by kernel_rfl
            rw [this] at r; cases r
      exact none_old k1 hz
    have newm : ∀ b ∈ mtOf env ++ mt,b ∈ mt ∨ s.heap.get? b = none:=fun b hb=>by
      rcases List.mem_append.mp hb with q | q
      · right
        rcases List.mem_cons.mp q with rfl | q
        · exact locN _ (.inl rfl)
        · refine e1a2 (List.mem_map.mp q) fun pp hp zr331=>?_
          subst zr331
          refine e1a1 (lookup_of_mem hp) fun c' hc'=>?_
          rw [hc']
          exact locN _ (.inr ⟨_,hc'⟩)
      · exact .inl q
    refine h s₂ env k02 hA1 (fun y=>by rw [he]; rfl) (by rw [he]; kernel_rfl) F (hv _ _ (.head _)) locN newm |> fun z=>wpAny_mono z (fun _ _ q=>q) fun _ _ f=>f.elim
end
end Mine
namespace Mine
open PySem PySem.W PyProof.Rows PySem.Calls
section
variable {prog : Program} {w : World} {K : Frag} {mg mb : Str→Option Value} {A : Around} {s : Shared} {E : Value→Shared→Prop} {ad : SoAd} {x : SoTk} {n : Nat} {np : Nat→Int} {sn : Nat→List Nat} {po fi : Int} {mt : List Addr}
set_option maxHeartbeats 8000000 in
theorem done_call {doc : Value} {l ks : List Nat} {vs : List Value} {Q : Value→Shared→Prop} (N : Nm mg mb) (NT : NmT mg) (SK : SoK K) (H : FnAt K 244 (fdDone doc)) (hA : Aok 1 A) (G : Gl K mg mb (hideAll s.heap (ad.R :: ad.mutB n))) (o : SoB prog w ad x n np sn (.ref ad.R) po fi mt s.heap) (r : Rl ad.R l s.heap)
    (hmm : ∀ b ∈ ad.R :: ad.mutB n,b ∈ mt) (hex : ∀ a ∈ mt,∃ o,s.heap.get? a = some o) (hks : ∀ k ∈ ks,k < n) (hsn : ∀ k,∀ u ∈ sn k,u < n) (hsl : ∀ k,(sn k).length ≤ 1000) (hz : l.length ≤ 1000)
    (hvs : IntsAre vs (ks.map fun p : Nat=>(p : Int))) (hl5 : ks.length ≤ 5) (hok : DoneOk sn (np,l) ks)
    (h : ∀ s',Kb (ad.R :: ad.mutB n) s s'→SoB prog w ad x n (doneAll sn (np,l) ks).1 sn (.ref ad.R) po (fi + (ks.length : Nat)) mt s'.heap→Rl ad.R (doneAll sn (np,l) ks).2 s'.heap→Q .none s') :
    codeAny (model prog w) A (.call (.ref 244) ⟨.ref ad.S :: vs,[]⟩) (Rw Q E) s:=by
  refine done_enter (hid:=ad.R :: ad.mutB n) (mt:=mt) H hA G hmm hex hvs hl5 fun s₂ env k2 hA1 kd hi F V locN newm=>?_
  revert hA1
  refine genA (A.deeper env) fun A' hA1=>?_
  have hm : ∀ b,Loc env b→b ∈ mtOf env ++ mt:=fun b hb=>(F.locs b hb).1
  have exR : ∀ b ∈ ad.R :: ad.mutB n,∃ ob,s.heap.get? b = some ob:=fun b hb=>by
    rcases List.mem_cons.mp hb with rfl | hb
    · obtain ⟨vs,⟨c,e⟩,_⟩:=r; exact ⟨_,e⟩
    · exact o.mutEx b hb
  have mL : ∀ b ∈ ad.R :: ad.mutB n,¬ Loc env b:=fun b hb hl=>by
    refine hideG fun zD zhD=>?_
    refine e1a1 (exR b hb) fun ob e=>?_
    refine zhD ?_
    clear zhD zD
    rw [locN b hl] at e; cases e
  have mLB : ∀ b ∈ ad.mutB n,¬ Loc env b:=fun b hb=>mL b (.tail _ hb)
  have RL : ¬ Loc env ad.R:=mL _ (.head _)
  have hmE : ∀ b ∈ ad.R :: ad.mutB n,b ∈ mtOf env ++ mt:=fun b hb=>List.mem_append.mpr (.inr (hmm b hb))
  have o2:=(o.hide newm).ext (Keeps.ext k2)
  have r2:=r.at' (Keeps.ext k2 _)
  clear o r
  refine ex_docK F hi fun s₃ F₃ k3=>?_
  have V3:=V.ext (Keeps.ext k3)
  have o3:=o2.ext (Keeps.ext k3)
  have r3:=r2.at' (Keeps.ext k3 _)
  refine hideG fun zD zhD=>?_
  refine e2a1 o3.sos fun tp tf os3=>?_
  refine zhD ?_
  clear zhD zD
  refine ex_ifR F₃ (b:=false) (wpAny_isTrue_Compare1 (so_attr SK F₃.sv.gl.k V3 os3 SK.n2 get_ready rfl (wpAny_Constant_none (is_none_ne (by intro e; cases e) (wpAny_truthy_bool ⟨rfl,Keeps.tok _⟩)))) (by with_unfolding_all rfl)) (fun e=>nomatch e) fun _ s₄ F₄ k4=>wpAny_execs_nil ?_
  have V4:=V3.ext (Keeps.ext k4)
  have o4:=o3.ext (Keeps.ext k4)
  have r4:=r3.at' (Keeps.ext k4 _)
  refine hideG fun zD zhD=>?_
  refine e2a1 o4.sos fun tp4 tf4 os4=>?_
  refine zhD ?_
  clear zhD zD
  refine wpAny_execs_cons (wpAny_Assign_Name (so_attr SK F₄.sv.gl.k V4 os4 SK.n1 get_n2i rfl ?_) (by kernel_rfl))
  refine (F₄.keeps (Keeps.tok (s₄.toks + 1))).storeV (.inl (by rw [kd]; kernel_rfl)) [("nodes",.tuple (ks.map fun k : Nat=>.int (k : Nat)))] ⟨rfl,trivial⟩ rfl fun s₇ F₇ v7 k7=>?_
  have V7:=k7.var _ _ (by decide) (V4.ext (Keeps.ext (Keeps.tok (s₄.toks + 1))))
  have o7:=(o4.ext (Keeps.ext (Keeps.tok (s:=s₄) (s₄.toks + 1)))).kl k7 hm mLB
  have r7:=r4.at' fun ob e=>k7.ext _ ob RL e
  refine ex_forX ["node"] ["nodeinfo","stat","successor","successor_info"] (ad.R :: ad.mutB n) (fun d=>[("node",d)]) (fun _=>[("nodes",.tuple (ks.map fun k : Nat=>.int (k : Nat)))])
    (fun i m u=>(Var env u.heap "self" (.ref ad.S)∧Var env u.heap "n2i" (.ref ad.N))∧SoB prog w ad x n (doneAll sn (np,l) (ks.take i)).1 sn (.ref ad.R) po (fi + (i : Nat)) m u.heap∧Rl ad.R (doneAll sn (np,l) (ks.take i)).2 u.heap) F₇
    ⟨⟨V7,v7⟩,by simpa [doneAll] using o7,by simpa [doneAll] using r7⟩ hmE mL (src_tuple (ds:=ks.map fun k : Nat=>.int (k : Nat)) hA1.hd (pe_name _ rfl)) (fun d _=>tgtF_name (.inl (by rw [kd]; kernel_rfl))) ⟨rfl,trivial⟩ ?_ ?_ ?_
  · intro i m₁ m₂ u₁ u₂ zi24 mv
    refine e0a3 zi24 fun zs47 a3 a4=>?_
    refine e0a2 zs47 fun a1 a2=>?_
    exact ⟨⟨mv.var _ _ (by decide) a1,mv.var _ _ (by decide) a2⟩,a3.mv mv fun b hb=>.tail _ hb,a4.at' fun ob e=>mv.keep _ ob (fun _=>.head _) e⟩
  · intro i d m u hd hmm' G₁ zi25
    refine e0a3 zi25 fun zs48 a3 a4=>?_
    refine e0a2 zs48 fun a1 a2=>?_
    rw [List.getElem?_map] at hd
    refine hideG fun zD zhD=>?_
    refine e1a2 (Option.map_eq_some_iff.mp hd) fun k hk zr49=>?_
    subst zr49
    refine zhD ?_
    clear zhD zD
    have hkn : k < n:=hks k (List.mem_of_getElem? hk)
    have hnk:=hok i k hk
    have hlen : (doneAll sn (np,l) (ks.take i)).2.length ≤ 1000 + 1000 * 5:=by
      have h1:=doneAll_len hsl (ks.take i) (np,l)
      have h2 : (ks.take i).length ≤ 5:=by rw [List.length_take]; lia
      have h3 : (np,l).2.length ≤ 1000:=hz
      have h4 : 1000 * (ks.take i).length ≤ 1000 * 5:=Nat.mul_le_mul_left _ h2
      lia
    have et : ks.take (i + 1) = ks.take i ++ [k]:=by rw [List.take_add_one,hk]; rfl
    rw [et,doneAll_snoc]
    revert hlen
    revert hnk
    revert a4
    revert a3
    refine genA (doneAll sn (np,l) (ks.take i)) fun st a3 a4 hnk hlen=>?_
    refine hideQE fun QL EL hQL hEL=>?_
    have hmG : ∀ b,Loc env b→b ∈ m:=fun b hb=>(G₁.locs b hb).1
    have hmR : ∀ b ∈ ad.R :: ad.mutB n,b ∈ m:=fun b hb=>hmm' _ (hmE b hb)
    refine hideG fun zD zhD=>?_
    refine e1a2 (G₁.vars "node" _ rfl) fun vn hvn rn=>?_
    refine e1a1 rn.int_inv fun tn zr50=>?_
    subst zr50
    refine zhD ?_
    clear zhD zD
    refine wpAny_execs_cons (wpAny_If (wpAny_isTrue_Compare1 (wpAny_NamedExpr (dgetN (kvs:=nodePairs ad.I n) (k:=(k : Int)) a3.lo a3.dict a2 hvn ?_ (by rfl) (by decide) (by decide))) (by with_unfolding_all rfl)))
    rw [nodePairs_at,if_pos hkn]
    have G₁':=G₁.keeps (Keeps.tok (u.toks + 1))
    refine wpAny_assign_Name (G₁'.storeV (.inl (by rw [kd]; kernel_rfl)) [("nodes",.tuple (ks.map fun k : Nat=>.int (k : Nat)))] ⟨rfl,trivial⟩ rfl fun u₂ G₂ vI kl2=>?_)
    refine wpAny_Constant_none (is_none_ne (by intro e; cases e) (wpAny_truthy_bool ?_))
    refine wpAny_execs_nil ?_
    have b1:=kl2.var _ _ (by decide) (a1.ext (Keeps.ext (Keeps.tok (u.toks + 1))))
    have b2:=kl2.var _ _ (by decide) (a2.ext (Keeps.ext (Keeps.tok (u.toks + 1))))
    have b3:=(a3.ext (Keeps.ext (Keeps.tok (s:=u) (u.toks + 1)))).kl kl2 hmG mLB
    have b4:=(a4.at' (Keeps.ext (Keeps.tok (s:=u) (u.toks + 1)) _)).at' fun ob e=>kl2.ext _ ob RL e
    have q2 : Kl env ["nodeinfo"] u u₂:=Kl.trans (Kl.of (Keeps.tok (u.toks + 1))) kl2
    refine hideG fun zD zhD=>?_
    refine e2a1 (b3.nd k hkn) fun t1 t2 nd2=>?_
    refine zhD ?_
    clear zhD zD
    refine wpAny_execs_cons (wpAny_Assign_Name (Attribute_Name_ (wpAny_Name (vI.load (node_get SK G₂.sv.gl.k nd2 SK.s1 (v:=.int (st.1 k) t1) rfl rfl ?_)) (by decide)) rfl) (by kernel_rfl))
    rw [hnk]
    refine (G₂.keeps (Keeps.tok (u₂.toks + 1))).store (.inl (by rw [kd]; kernel_rfl)) (d:=.int (-1)) (.int _ _) fun u₃ G₃ kl3=>?_
    have c1:=kl3.var _ _ (by decide) (b1.ext (Keeps.ext (Keeps.tok (u₂.toks + 1))))
    have c2:=kl3.var _ _ (by decide) (b2.ext (Keeps.ext (Keeps.tok (u₂.toks + 1))))
    have cI:=kl3.var _ _ (by decide) (vI.ext (Keeps.ext (Keeps.tok (u₂.toks + 1))))
    have c3:=(b3.ext (Keeps.ext (Keeps.tok (s:=u₂) (u₂.toks + 1)))).kl kl3 hmG mLB
    have c4:=(b4.at' (Keeps.ext (Keeps.tok (s:=u₂) (u₂.toks + 1)) _)).at' fun ob e=>kl3.ext _ ob RL e
    have q3 : Kl env ["nodeinfo","stat"] u u₃:=Kl.trans (q2.mono (by simp)) (Kl.trans (Kl.of (Keeps.tok (u₂.toks + 1))) (kl3.mono (by simp)))
    clear a1 a2 a3 a4 b1 b2 b3 b4
    refine hideG fun zD zhD=>?_
    refine e1a1 NT.out fun to hto=>?_
    refine e1a1 NT.done fun tdn htd=>?_
    refine e1a2 (G₃.vars "stat" _ rfl) fun vst hvst rst=>?_
    refine e1a1 rst.int_inv fun tst zr51=>?_
    subst zr51
    refine zhD ?_
    clear zhD zD
    refine ex_ifR G₃ (b:=false) (wpAny_isTrue_Compare1 (wpAny_Name (hvst.load (nm_g G₃.sv (by rw [kd]; kernel_rfl) hto ?_)) (by decide)) (by with_unfolding_all rfl)) (fun e=>nomatch e) fun _ u₄ G₄ kp4=>wpAny_execs_nil ?_
    · exact ne_int (wpAny_truthy_bool ⟨rfl,Keeps.rfl'⟩)
    have d1:=c1.ext (Keeps.ext kp4)
    have d2:=c2.ext (Keeps.ext kp4)
    have dI:=cI.ext (Keeps.ext kp4)
    have d3:=c3.ext (Keeps.ext kp4)
    have d4:=c4.at' (Keeps.ext kp4 _)
    have q4 : Kl env ["nodeinfo","stat"] u u₄:=Kl.trans q3 (Kl.of kp4)
    clear c1 c2 c3 c4 cI
    refine hideG fun zD zhD=>?_
    refine e2a1 (d3.nd k hkn) fun t5 t6 nd5=>?_
    refine zhD ?_
    clear zhD zD
    have hIm : ad.I k ∈ m:=hmR _ (.tail _ (ad.mbI hkn))
    have hIL : ¬ Loc env (ad.I k):=mLB _ (ad.mbI hkn)
    refine wpAny_execs_cons (plainObj_wpAny_Assign_Attribute (nm_g G₄.sv (by rw [kd]; kernel_rfl) htd (wpAny_Name (dI.load ?_) (by decide))) (by kernel_rfl))
    refine node_set (s:=u₄) SK G₄.sv.gl.k nd5 hIm fun h5 tk5 nd5' hs5=>?_
    have kb5 : ∀ b ob,b ≠ ad.I k→u₄.heap.get? b = some ob→h5.get? b = some ob:=hs5.extBut
    have G₅:=G₄.hidTurn (tk:=tk5) hIm hIL (hidS_none (.tail _ (ad.mbI hkn))) kb5 (let ⟨dx,e,_⟩:=nd5'.at_; ⟨_,e⟩)
    have e1:=d1.but (tk:=tk5) hIL kb5
    have e2:=d2.but (tk:=tk5) hIL kb5
    have eI:=dI.but (tk:=tk5) hIL kb5
    have e3:=d3.setNp hkn hIm hs5 nd5'
    have e4 : Rl ad.R st.2 h5:=d4.at' fun ob e=>kb5 _ ob (d3.RI d4 hkn) e
    have q5 : Kx env ["nodeinfo","stat"] (ad.R :: ad.mutB n) u { u₄ with heap:=h5,toks:=tk5 }:=Kx.trans (Kx.ofKl q4) (Kx.but (.tail _ (ad.mbI hkn)) hIL kb5)
    have eL:=e3.li k hkn
    refine hideG fun zD zhD=>?_
    refine e2a1 (e3.nd k hkn) fun t7 t8 nd7=>?_
    refine zhD ?_
    clear zhD zD
    refine ex_forXR ["successor"] ["successor_info"] (ad.R :: ad.mutB n) (fun d=>[("successor",d)]) (fun _=>[("nodes",.tuple (ks.map fun k : Nat=>.int (k : Nat)))])
      (fun j m u=>(Var env u.heap "self" (.ref ad.S)∧Var env u.heap "n2i" (.ref ad.N))∧SoB prog w ad x n (decAll (updF st.1 k (-2),st.2) ((sn k).take j)).1 sn (.ref ad.R) po (fi + (i : Nat)) m u.heap∧Rl ad.R (decAll (updF st.1 k (-2),st.2) ((sn k).take j)).2 u.heap) (s:={ u₄ with heap:=h5,toks:=tk5 }) G₅
      ⟨⟨e1,e2⟩,by simpa [decAll] using e3,by simpa [decAll] using e4⟩ hmR mL (ds:=(sn k).map fun j : Nat=>.int (j : Nat)) (fun E=>srcAt_list hA1.hd G₅.sv (Attribute_Name_ (wpAny_Name (eI.load (node_get (s:={ u₄ with heap:=h5,toks:=tk5 }) SK G₅.sv.gl.k nd7 SK.s0 (v:=.ref (ad.L k)) rfl rfl ⟨Keeps.tok _,eL⟩)) (by decide)) rfl)) (fun d _=>tgtF_name (.inl (by rw [kd]; kernel_rfl))) ⟨rfl,trivial⟩ ?_ ?_ ?_
    · intro j m₁ m₂ u₁ u₂ zi26 mv
      refine e0a3 zi26 fun zs52 a3 a4=>?_
      refine e0a2 zs52 fun a1 a2=>?_
      exact ⟨⟨mv.var _ _ (by decide) a1,mv.var _ _ (by decide) a2⟩,a3.mv mv fun b hb=>.tail _ hb,a4.at' fun ob e=>mv.keep _ ob (fun _=>.head _) e⟩
    · intro j d m' z hd hmm2 Z₁ zi27
      refine e0a3 zi27 fun zs53 f3 f4=>?_
      refine e0a2 zs53 fun f1 f2=>?_
      rw [List.getElem?_map] at hd
      refine hideG fun zD zhD=>?_
      refine e1a2 (Option.map_eq_some_iff.mp hd) fun v hv zr54=>?_
      subst zr54
      refine zhD ?_
      clear zhD zD
      have hvn : v < n:=hsn k v (List.mem_of_getElem? hv)
      have hml : ∀ b,Loc env b→b ∈ m':=fun b hb=>(Z₁.locs b hb).1
      have hmR2 : ∀ b ∈ ad.R :: ad.mutB n,b ∈ m':=fun b hb=>hmm2 _ (hmR b hb)
      have et : (sn k).take (j + 1) = (sn k).take j ++ [v]:=by rw [List.take_add_one,hv]; rfl
      have hlen2 : (decAll (updF st.1 k (-2),st.2) ((sn k).take j)).2.length ≤ 10000:=by
        have h1:=decAll_len ((sn k).take j) (updF st.1 k (-2),st.2)
        have h2 : ((sn k).take j).length ≤ (sn k).length:=by rw [List.length_take]; lia
        have h3:=hsl k
        have h4 : (updF st.1 k (-2),st.2).2.length ≤ 1000 + 1000 * 5:=hlen
        lia
      rw [et,decAll_snoc]
      revert hlen2
      revert f4
      revert f3
      refine genA (decAll (updF st.1 k (-2),st.2) ((sn k).take j)) fun sv f3 f4 hlen2=>?_
      refine hideQE fun QM EM hQM hEM=>?_
      refine hideG fun zD zhD=>?_
      refine e1a2 (Z₁.vars "successor" _ rfl) fun vs hvs rs=>?_
      refine e1a1 rs.int_inv fun ts zr55=>?_
      subst zr55
      refine zhD ?_
      clear zhD zD
      refine wpAny_execs_cons (wpAny_Assign_Name (dict_item f2 hvs f3.dict (by rw [nodePairs_at,if_pos hvn]) ?_) (by kernel_rfl))
      refine (Z₁.keeps (Keeps.tok (z.toks + 1))).storeV (.inl (by rw [kd]; kernel_rfl)) [("successor",.int (v : Nat)),("nodes",.tuple (ks.map fun k : Nat=>.int (k : Nat)))] ⟨rfl,rfl,trivial⟩ rfl fun z₂ Z₂ vI2 kl2=>?_
      have g1:=kl2.var _ _ (by decide) (f1.ext (Keeps.ext (Keeps.tok (z.toks + 1))))
      have g2:=kl2.var _ _ (by decide) (f2.ext (Keeps.ext (Keeps.tok (z.toks + 1))))
      have g3:=(f3.ext (Keeps.ext (Keeps.tok (s:=z) (z.toks + 1)))).kl kl2 hml mLB
      have g4:=(f4.at' (Keeps.ext (Keeps.tok (s:=z) (z.toks + 1)) _)).at' fun ob e=>kl2.ext _ ob RL e
      have qz : Kl env ["successor_info"] z z₂:=Kl.trans (Kl.of (Keeps.tok (z.toks + 1))) kl2
      clear f1 f2 f3 f4
      refine hideG fun zD zhD=>?_
      refine e2a1 (g3.nd v hvn) fun ta tb ndv=>?_
      refine zhD ?_
      clear zhD zD
      have hIv : ad.I v ∈ m':=hmR2 _ (.tail _ (ad.mbI hvn))
      have hIvL : ¬ Loc env (ad.I v):=mLB _ (ad.mbI hvn)
      refine wpAny_execs_cons (wpAny_AugAssign_AttributeAny (wpAny_Name (vI2.load (node_get SK Z₂.sv.gl.k ndv SK.s1 (v:=.int (sv.1 v) ta) rfl rfl ?_)) (by decide)))
      refine wpAny_Constant_int (isub_int ?_)
      refine node_set (s:={ z₂ with toks:=z₂.toks + 1 + 1 + 1 }) SK Z₂.sv.gl.k ndv hIv fun h6 tk6 nd6 hs6=>?_
      have kb6 : ∀ b ob,b ≠ ad.I v→z₂.heap.get? b = some ob→h6.get? b = some ob:=hs6.extBut
      have Z₃:=Z₂.hidTurn (tk:=tk6) hIv hIvL (hidS_none (.tail _ (ad.mbI hvn))) kb6 (let ⟨dx,e,_⟩:=nd6.at_; ⟨_,e⟩)
      have i1:=g1.but (tk:=tk6) hIvL kb6
      have i2:=g2.but (tk:=tk6) hIvL kb6
      have iI:=vI2.but (tk:=tk6) hIvL kb6
      have i3:=g3.setNp hvn hIv hs6 nd6
      have i4 : Rl ad.R sv.2 h6:=g4.at' fun ob e=>kb6 _ ob (g3.RI g4 hvn) e
      have q6 : Kx env ["successor_info"] (ad.R :: ad.mutB n) z { z₂ with heap:=h6,toks:=tk6 }:=Kx.trans (Kx.ofKl qz) (Kx.but (.tail _ (ad.mbI hvn)) hIvL kb6)
      generalize hz6 : ({ z₂ with heap:=h6,toks:=tk6 } : Shared) = z₆ at Z₃ q6
      have hh6 : z₆.heap = h6:=by rw [← hz6]
      have nd6' : NodeAt (ad.I v) (ad.L v) (.int (sv.1 v - 1) (z₂.toks + 1 + 1)) (.int (v : Nat) tb) m' z₆.heap:=by rw [hh6]; exact nd6
      rw [← hh6] at i1 i2 iI i3 i4
      clear hs6 kb6 g1 g2 g3 g4
      refine ex_ifR Z₃ (b:=(sv.1 v - 1 == 0)) (wpAny_isTrue_Compare1 (Attribute_Name_ (wpAny_Name (iI.load (node_get SK Z₃.sv.gl.k nd6' SK.s1 (v:=.int (sv.1 v - 1) (z₂.toks + 1 + 1)) rfl rfl (wpAny_Constant_int (eq_int (wpAny_truthy_bool ⟨rfl,?_⟩))))) (by decide)) rfl) (by with_unfolding_all rfl)) (fun hb z₇ Z₄ kp=>?_) (fun hb z₇ Z₄ kp=>wpAny_execs_nil (wpAny_execs_nil ?_))
      · exact Keeps.tok _
      · have hb' : sv.1 v - 1 = 0:=by simpa using hb
        have j1:=i1.ext (Keeps.ext kp)
        have j2:=i2.ext (Keeps.ext kp)
        have j3:=i3.ext (Keeps.ext kp)
        have j4:=i4.at' (Keeps.ext kp _)
        refine hideG fun zD zhD=>?_
        refine e2a1 j3.sos fun tp7 tf7 os7=>?_
        refine e1a2 (id j4) fun ls zs56 hli=>?_
        refine e1a1 zs56 fun nl hls=>?_
        refine e1a2 (Z₄.vars "successor" _ rfl) fun vs2 hvs2 rs2=>?_
        refine e1a1 rs2.int_inv fun ts2 zr57=>?_
        subst zr57
        refine zhD ?_
        clear zhD zD
        refine wpAny_execs_cons (wpAny_Expr (wpAny_Call_append rfl (by rfl) (by rfl) (by rfl) (so_attr SK Z₄.sv.gl.k j1 os7 SK.n2 get_ready rfl ⟨ad.R,ls.toArray,rfl,⟨_,nl,hls,rfl,rfl,rfl⟩,?_⟩)) hi rfl)
        refine wpAny_Name (Var.load (s:={ z₇ with toks:=z₇.toks + 1 }) hvs2 ?_) (by decide)
        have hlen3 : ls.length = sv.2.length:=by rw [hli.length,List.length_map]
        refine append_at (s:={ z₇ with toks:=z₇.toks + 1 }) (hsz:=by rw [List.size_toArray,sizeLine_eq]; lia) hls fun h8 hs8 ho8=>wpAny_execs_nil (wpAny_execs_nil ?_)
        have kb8 : ∀ b ob,b ≠ ad.R→z₇.heap.get? b = some ob→h8.get? b = some ob:=hs8.extBut
        have hRm:=hmR2 _ (.head _)
        have k8 : Kb [ad.R] z₇ { z₇ with heap:=h8,toks:=z₇.toks + 1 }:=⟨h8,_,rfl,fun b ob hb e=>kb8 b ob (fun q=>hb (q ▸ .head _)) e⟩
        refine hQM _ _ ⟨(Z₄.hidTurn (tk:=z₇.toks + 1) hRm RL (hidS_none (.head _)) kb8 ⟨_,ho8⟩).to _ ⟨rfl,trivial⟩,⟨⟨j1.but (tk:=z₇.toks + 1) RL kb8,j2.but (tk:=z₇.toks + 1) RL kb8⟩,?_,?_⟩,Kx.trans q6 (Kx.trans (Kx.of kp) (Kx.but (.head _) RL kb8))⟩
        · exact j3.kb k8 (fun b hb=>by rcases List.mem_cons.mp hb with rfl | hb; exact hRm; cases hb) (fun b hb q=>by
            rcases List.mem_cons.mp q with rfl | q
            · rcases List.mem_cons.mp hb with e | hb
              · exact j3.RD j4 e
              · refine hideG fun zD zhD=>?_
                refine e1a2 (List.mem_map.mp hb) fun j hj e=>?_
                refine zhD ?_
                clear zhD zD
                exact j3.RI j4 (List.mem_range.mp hj) e.symm
            · cases q)
        · show Rl ad.R (if sv.1 v - 1 = 0 then sv.2 ++ [v] else sv.2) h8
          rw [if_pos hb']
          exact Rl.push hli ⟨_,ho8⟩
      · have hb' : ¬ sv.1 v - 1 = 0:=by simpa using hb
        refine hQM _ _ ⟨Z₄.to _ ⟨rfl,trivial⟩,⟨⟨i1.ext (Keeps.ext kp),i2.ext (Keeps.ext kp)⟩,i3.ext (Keeps.ext kp),?_⟩,Kx.trans q6 (Kx.of kp)⟩
        show Rl ad.R (if sv.1 v - 1 = 0 then sv.2 ++ [v] else sv.2) z₇.heap
        rw [if_neg hb']
        exact i4.at' (Keeps.ext kp _)
    · intro z₈ Z₈ zi28 q8
      refine e0a3 zi28 fun zs58 o8 r8=>?_
      refine e0a2 zs58 fun V8 v8=>?_
      rw [List.length_map,List.take_length] at o8 r8
      refine hideG fun zD zhD=>?_
      refine e2a1 o8.sos fun tp8 tf8 os8=>?_
      refine zhD ?_
      clear zhD zD
      have hDm:=hmR _ (.tail _ (ad.mbD n))
      have DL:=mLB _ (ad.mbD n)
      refine wpAny_execs_cons (wpAny_AugAssign_AttributeAny (wpAny_Name (V8.load (so_get SK Z₈.sv.gl.k os8 SK.n4 get_done rfl ?_)) (by decide)))
      refine wpAny_Constant_int (iadd_int ?_)
      refine so_set (s:={ z₈ with toks:=z₈.toks + 1 + 1 + 1 }) SK Z₈.sv.gl.k os8 SK.n4 any_done (fun _ _=>put_done _ _ _) fun h10 tk10 e10 hs10=>wpAny_execs_nil ?_
      have kb10 : ∀ b ob,b ≠ ad.D→z₈.heap.get? b = some ob→h10.get? b = some ob:=hs10.extBut
      refine hQL _ _ ⟨Z₈.hidTurn (tk:=tk10) hDm DL (hidS_none (.tail _ (ad.mbD n))) kb10 ⟨_,e10⟩,⟨⟨V8.but (tk:=tk10) DL kb10,v8.but (tk:=tk10) DL kb10⟩,?_,?_⟩,?_⟩
      · have z:=o8.setD hDm hs10 e10
        have e : fi + ((i + 1 : Nat) : Int) = fi + (i : Int) + 1:=by lia
        rw [e]; exact z
      · exact r8.at' fun ob e=>kb10 _ ob (o8.RD r8) e
      · exact Kx.trans (q5.mono (by simp) fun _ h=>h) (Kx.trans (q8.mono (by simp) fun _ h=>h) (Kx.but (.tail _ (ad.mbD n)) DL kb10))
  · intro s₈ F₈ zi29 _
    refine e0a3 zi29 fun zs59 o8 r8=>?_
    refine e0a2 zs59 fun V8 v8=>?_
    rw [List.length_map,List.take_length] at o8 r8
    exact wpAny_execs_nil (h s₈ (hidS_kb F₈.keep) (o8.hide fun b hb=>.inl (List.mem_append.mpr (.inr hb))) r8)
end
end Mine
namespace Mine
open PySem PySem.W PyProof.Rows PySem.Calls
namespace LF
theorem slot_ga : Slot "list_iterator" "__getattribute__" "object.__getattribute__" :=
  .of (owner := "object") (n := "__getattribute__") (by rw [typeLookup_type,builtinLookup_eq_fast]; kernel_rfl) (by decide +kernel) (by decide +kernel) (by decide +kernel)
    (by first | exact .inl (by decide +kernel) | exact .inr (by decide +kernel)) (by rw [isSubtype_type]; kernel_rfl)
theorem lk_next : typeLookup (.type "list_iterator") "__next__" = pure (some (.builtin "list_iterator.__next__")):=by rw [typeLookup_type,builtinLookup_eq_fast]; kernel_rfl
theorem type_next : typeOf (.builtin "list_iterator.__next__") = pure (.type "wrapper_descriptor"):=by kernel_rfl
theorem slot_wd : Slot "wrapper_descriptor" "__get__" "wrapper_descriptor.__get__" :=
  .of (owner := "wrapper_descriptor") (n := "__get__") (by rw [typeLookup_type,builtinLookup_eq_fast]; kernel_rfl) (by decide +kernel) (by decide +kernel) (by decide +kernel)
    (by first | exact .inl (by decide +kernel) | exact .inr (by decide +kernel)) (by rw [isSubtype_type]; kernel_rfl)
theorem wd_set : typeLookup (.type "wrapper_descriptor") "__set__" = pure none:=by rw [typeLookup_type,builtinLookup_eq_fast]; kernel_rfl
theorem wd_delete : typeLookup (.type "wrapper_descriptor") "__delete__" = pure none:=by rw [typeLookup_type,builtinLookup_eq_fast]; kernel_rfl
theorem entry_wd : entryFor table "wrapper_descriptor.__get__" = some Builtin.«wrapper_descriptor.__get__»:=entryFor_of_tree (by kernel_rfl)
theorem args_wd (a b c : Value) : argsOk "wrapper_descriptor.__get__" ⟨[a,b,c],[]⟩:=by unfold argsOk; kernel_rfl
theorem owner_next : (".".intercalate ("list_iterator.__next__".cutAt '.').dropLast) = "list_iterator" := by
  have e0 : "list_iterator.__next__".cutAt '.' = ["list_iterator","__next__"]:=by first | rfl | decide +kernel
  rw [e0]; decide +kernel
theorem sub_owner : isSubtype (.type "list_iterator") (.type (".".intercalate ("list_iterator.__next__".cutAt '.').dropLast)) = pure true:=by
  rw [owner_next,isSubtype_type]; kernel_rfl
end LF
abbrev nextMw (it : Addr) : Obj:={ cls:=.type "method-wrapper",data:=.fields #[.builtin "list_iterator.__next__",.ref it] }
section
variable {prog : Program} {w : World} {A : Around} {E : Value→Shared→Prop} {h : Heap} {g : Array GenState} {d : Drawn} {t : Nat} {os : OsState} {it : Addr} {o : Obj}
theorem nx_get {R : Result→Shared→Prop} (hx : h.get? it = some o) (hc : o.cls = .type "list_iterator") (hq : R (.ok (.ret (.ref h.objs.size))) ⟨h.push (nextMw it),g,d,t,os⟩) :
    codeAny (model prog w) A (.call (.builtin "wrapper_descriptor.__get__") ⟨[.builtin "list_iterator.__next__",.ref it,.type "list_iterator"],[]⟩) R ⟨h,g,d,t,os⟩:=by
  have hT : (⟨h,g,d,t,os⟩ : Shared).TypeIs (.ref it) "list_iterator" := ⟨_,hx,hc⟩
  have hT5 : (⟨h,g,d,t,os⟩ : Shared).TypeIs (.builtin "list_iterator.__next__") "wrapper_descriptor" := LF.type_next
  have f8:=LF.sub_owner
  refine codeAny_call_builtin LF.slot_wd.plain LF.entry_wd (LF.slot_wd.check _ _ _ _ _ _ _ _ hT5 (LF.args_wd _ _ _) ?_)
  repeat (any_goals (first | assumption | wp_step))
theorem nx_entry {tk : Tok} {Q : Fin→Shared→Prop} {vs : Array Value} (hx : h.get? it = some { cls:=.type "list_iterator",data:=.fields vs }) (hq : Q (.done (.ret (.ref h.objs.size))) ⟨h.push (nextMw it),g,d,t,os⟩) :
    wpAny (model prog w) A (Builtin.«object.__getattribute__» ⟨[.ref it,.str "__next__" tk],[]⟩) Q E ⟨h,g,d,t,os⟩:=by
  have hT : (⟨h,g,d,t,os⟩ : Shared).TypeIs (.ref it) "list_iterator" := ⟨_,hx,rfl⟩
  have hT5 : (⟨h,g,d,t,os⟩ : Shared).TypeIs (.builtin "list_iterator.__next__") "wrapper_descriptor" := LF.type_next
  have f4:=LF.lk_next
  have f5:=LF.type_next
  have f6:=LF.slot_wd.lookup
  have f7:=LF.wd_set
  have f9:=LF.wd_delete
  repeat (any_goals (first | assumption | wp_step))
  refine nx_get hx rfl ?_
  repeat (any_goals (first | assumption | wp_step))
theorem nx_call {tk : Tok} {vs : Array Value} {R : Result→Shared→Prop} (hx : h.get? it = some { cls:=.type "list_iterator",data:=.fields vs }) (hq : R (.ok (.ret (.ref h.objs.size))) ⟨h.push (nextMw it),g,d,t,os⟩) :
    codeAny (model prog w) A (.call (.builtin "object.__getattribute__") ⟨[.ref it,.str "__next__" tk],[]⟩) R ⟨h,g,d,t,os⟩ :=
  codeAny_call_builtin LF.slot_ga.plain F.entry_object_getattribute (LF.slot_ga.check _ _ _ _ _ _ _ _ (show (⟨h,g,d,t,os⟩ : Shared).TypeIs (.ref it) "list_iterator" from ⟨_,hx,rfl⟩) (F.args_object_getattribute_2 _ _) (nx_entry hx hq))
theorem nx_by {tk : Tok} {vs : Array Value} {Q : Value→Shared→Prop} (hx : h.get? it = some { cls:=.type "list_iterator",data:=.fields vs }) (hq : Q (.ref h.objs.size) ⟨h.push (nextMw it),g,d,t,os⟩) : wpAny (model prog w) A (getAttrBy (.ref it) (.str "__next__" tk) true true) Q E ⟨h,g,d,t,os⟩:=by
  have hT : (⟨h,g,d,t,os⟩ : Shared).TypeIs (.ref it) "list_iterator" := ⟨_,hx,rfl⟩
  have f2:=LF.slot_ga.lookup
  have f3:=LF.slot_ga.bind (.ref it)
  repeat (any_goals (first | assumption | wp_step))
  refine nx_call hx ?_
  repeat (any_goals (first | assumption | wp_step))
theorem nx_attr {s : Shared} {vs : Array Value} {Q : Value→Shared→Prop} (hx : s.heap.get? it = some { cls:=.type "list_iterator",data:=.fields vs }) (hq : Q (.ref s.heap.objs.size) { s with heap:=s.heap.push (nextMw it),toks:=s.toks + 1 }) : wpAny (model prog w) A (getAttr (.ref it) "__next__" true) Q E s:=by
  obtain ⟨h,g,d,t,os⟩:=s
  unfold getAttr
  repeat (any_goals (first | assumption | with_reducible apply nx_by hx | wp_step))
end
end Mine
namespace Mine
open PySem PySem.W PyProof.Rows PySem.Calls
abbrev itObj (l : Addr) (i : Nat) : Obj:={ cls:=.type "list_iterator",data:=.fields #[.ref l,.int i 0] }
theorem if_so' {α : Type} {M : Model} {A : Around} {E : Value→Shared→Prop} {s : Shared} {c : Bool} {a b : Sem α} {Q : α→Shared→Prop} (hc : c = true) (h : wpAny M A a Q E s) : wpAny M A (if c = true then a else b) Q E s:=by
  subst hc; exact h
namespace LF
theorem kind_iter : builtinKind "iter" = none:=by decide +kernel
theorem plain_iter : plainId "iter" = true:=by decide +kernel
theorem entry_iter : entryFor table "iter" = some Builtin.«iter»:=entryFor_of_tree (by kernel_rfl)
theorem args_iter (a : Value) : argsOk "iter" ⟨[a],[]⟩:=by unfold argsOk; kernel_rfl
theorem check_next (it : Addr) : checkBoundCall "list_iterator.__next__" ⟨[.ref it],[]⟩ = pure ():=by first | kernel_rfl | rfl
theorem quiet_next (it : Addr) : (Code.builtin "list_iterator.__next__" ⟨[.ref it],[]⟩).quiet = true:=Code.quiet_builtin _ (by decide +kernel)
end LF
section
variable {prog : Program} {w : World} {A : Around} {E : Value→Shared→Prop} {s : Shared} {env : Env}
theorem iter_list {l : Addr} {items : Array Value} {Q : Value→Shared→Prop} (hl : s.heap.IsList l items) (hq : Q (.ref s.heap.objs.size) { s with heap:=s.heap.push (itObj l 0) }) :
    wpAny (model prog w) A (call (.builtin "iter") [.ref l]) Q E s:=by
  refine Calls.call_function_entry LF.kind_iter LF.plain_iter LF.entry_iter (LF.args_iter _) ?_
  unfold Builtin.«iter»
  refine wpAny_bind (wpAny_of_eq (a:=[.ref l]) (by first | rfl | kernel_rfl) ?_)
  dsimp only
  exact wpAny_bind (wpAny_pyIter_list hl (wpAny_pure ⟨_,rfl,hq⟩))
theorem callWith_mw {pos : Pos} {u it : Addr} {Q : Value→Shared→Prop} (ho : s.heap.get? u = some (nextMw it)) (h : wpAny (model prog w) A (call (.ref u) []) Q E s) :
    wpAny (model prog w) A (callWith pos (.ref u) [] [] []) Q E s:=by
  unfold callWith
  refine wpAny_bind (wpAny_holding (evalArgs_nil3 (wpAny_bind (wpAny_standAt ?_))))
  refine wpAny_bind (m:=keeperOf (.ref u)) ?_
  unfold keeperOf
  refine wpAny_bind (wpAny_load ho ?_)
  simp only [nextMw,show (Value.type "method-wrapper" != Value.type "method") = true by decide,show (Value.type "method-wrapper" == Value.type "builtin_function_or_method" || Value.type "method-wrapper" == Value.type "method-wrapper") = true by decide,if_true]
  refine wpAny_pure ?_
  exact wpAny_bind (wpAny_mono h (fun r s₂ hr=>wpAny_bind (wpAny_holding (wpAny_point (wpAny_pure hr)))) fun _ _ x=>x)
theorem mw_open {u it : Addr} {R : Result→Shared→Prop} (ho : s.heap.get? u = some (nextMw it)) (h : codeAny (model prog w) A (.builtin "list_iterator.__next__" ⟨[.ref it],[]⟩) R s) :
    codeAny (model prog w) A (.call (.ref u) ⟨[],[]⟩) R s:=by
  refine codeAny_of_tree ?_
  show wpAny _ A.in1 (callAny (.ref u) ⟨[],[]⟩) _ _ s
  simp only [callAny]
  refine wpAny_bind (wpAny_load ho ?_)
  simp only [nextMw,show (Value.type "method-wrapper" == Value.type "method" || Value.type "method-wrapper" == Value.type "builtin_function_or_method" || Value.type "method-wrapper" == Value.type "method-wrapper") = true by decide,if_true]
  refine if_so' (by decide) ?_
  refine wpAny_bind (wpAny_of_eq (a:=()) (LF.check_next it) ?_)
  refine wpAny_bind (wpAny_pure (wpAny_pure ?_))
  exact ⟨LF.quiet_next it,h⟩
theorem mw_item {u it l : Addr} {i : Nat} {items : Array Value} {v : Value} {Q : Value→Shared→Prop} (hu : s.heap.get? u = some (nextMw it)) (ho : s.heap.get? it = some (itObj l i)) (hl : s.heap.IsList l items) (hx : items[i]? = some v)
    (hq : ∀ h',h'.get? it = some (itObj l (i + 1))→Heap.SameBut it s.heap h'→Q v { s with heap:=h' }) : wpAny (model prog w) A (call (.ref u) []) Q E s:=by
  obtain ⟨ol,hol,_,nl,hdl⟩:=hl
  refine wpAny_call (mw_open hu (codeAny_builtin entry_listiter_next ?_))
  show wpAny _ _ (field (.ref it) 0 >>= _) _ _ s
  refine wpAny_bind (wpAny_field ho rfl (x:=.ref l) rfl ?_)
  show wpAny _ _ (if (Value.ref l == Value.none) = true then _ else _) _ _ s
  rw [if_neg (show ¬ ((Value.ref l == Value.none) = true) from Bool.false_ne_true)]
  show wpAny _ _ (field (.ref it) 1 >>= _) _ _ s
  refine wpAny_bind (wpAny_field ho rfl (x:=.int i 0) rfl ?_)
  show wpAny _ _ (seqItems? (.ref l) >>= _) _ _ s
  refine wpAny_bind (wpAny_seqItems hol hdl ?_)
  simp only [Int.toNat_natCast,hx]
  refine wpAny_bind (wpAny_setField ho rfl (by simp) (wpAny_pure (hq _ ?_ (Heap.SameBut.update ..))))
  rw [Heap.get?_update_self _ ho rfl]
  rfl
theorem mw_end {u it l : Addr} {i : Nat} {items : Array Value} {Q : Value→Shared→Prop} (hh : A.handled = none) (hu : s.heap.get? u = some (nextMw it)) (ho : s.heap.get? it = some (itObj l i)) (hl : s.heap.IsList l items) (hx : items[i]? = none)
    (hE : ∀ h' e t,Heap.ExtBut it s.heap h'→(∃ o,h'.get? it = some o)→h'.get? e = some { cls:=.type "StopIteration",data:=.fields #[.ref t,.none,.none,.none,.bool false,.none] }→s.heap.get? e = none→E (.ref e) { s with heap:=h' }) : wpAny (model prog w) A (call (.ref u) []) Q E s:=by
  obtain ⟨ol,hol,_,nl,hdl⟩:=hl
  refine wpAny_call (mw_open hu (codeAny_builtin entry_listiter_next ?_))
  show wpAny _ _ (field (.ref it) 0 >>= _) _ _ s
  refine wpAny_bind (wpAny_field ho rfl (x:=.ref l) rfl ?_)
  show wpAny _ _ (if (Value.ref l == Value.none) = true then _ else _) _ _ s
  rw [if_neg (show ¬ ((Value.ref l == Value.none) = true) from Bool.false_ne_true)]
  show wpAny _ _ (field (.ref it) 1 >>= _) _ _ s
  refine wpAny_bind (wpAny_field ho rfl (x:=.int i 0) rfl ?_)
  show wpAny _ _ (seqItems? (.ref l) >>= _) _ _ s
  refine wpAny_bind (wpAny_seqItems hol hdl ?_)
  simp only [Int.toNat_natCast,hx]
  refine wpAny_bind (wpAny_rule (wpAny_bind (wpAny_setField ho rfl (by simp) ?_)))
  show wpAny _ _ (newExc (.type "StopIteration") [] >>= _) _ _ _
  refine wpAny_bind ?_
  simp only [newExc,newTuple]
  refine wpAny_bind (wpAny_newObj_type ?_ (by size_fits))
  refine wpAny_bind (m:=firstArgMember _ _) (wpAny_of_eq (a:=Value.none) (by first | rfl | (simp only [firstArgMember]; rfl)) ?_)
  refine wpAny_newObj_type ?_ (by size_fits)
  simp only [raiseNew]
  refine wpAny_bind (wpAny_handled ?_)
  rw [show ∀ c,(A.under c).handled = none from fun _=>hh]
  refine wpAny_throw ?_
  refine hE _ _ _ (((Heap.SameBut.update ..).extBut.push _).push _) ⟨_,Heap.get?_push_of_some _ (Heap.get?_push_of_some _ (Heap.get?_update_self _ ho rfl))⟩ (Heap.get?_push_size _ rfl) ?_
  exact Heap.get?_none_of_le (by rw [Heap.size_push]; exact Nat.le_trans (Nat.le_of_eq (Heap.SameBut.update ..).1.symm) (Nat.le_succ _))
end
end Mine
namespace Mine
open PySem PySem.W PyProof.Rows PySem.Calls
abbrev excObj (c : Value) (t : Addr) : Obj:={ cls:=c,data:=.fields #[.ref t,.none,.none,.none,.bool false,.none] }
noncomputable def framesOf (l : List Env) : List Addr:=l.filterMap (·.frame)
noncomputable def Below (h : Heap) : List Env→Prop
  | []=>True
  | env :: rest=>env.scope.kind ≠ .module∧(∃ L o,env.frame = some L∧h.get? L = some o∧∀ vs,o.data ≠ .fields vs)∧Below h rest
theorem Below.fun {h base : Heap} : ∀ {l : List Env},Below h l→(∀ b ∈ framesOf l,base.get? b = none)→h.FunFrames base l
  | [],_,_=>trivial
  | env :: rest,⟨hk,⟨L,o,hf,ho,hd⟩,hr⟩,hb=>by
    have e : framesOf (env :: rest) = L :: framesOf rest:=by unfold framesOf; rw [List.filterMap_cons,hf]
    exact ⟨hk,⟨L,o,hf,hb L (by rw [e]; exact .head _),ho,hd⟩,Below.fun hr fun b hb'=>hb b (by rw [e]; exact .tail _ hb')⟩
theorem Below.up {h h' : Heap} (k : ∀ b o,h.get? b = some o→(∀ vs,o.data ≠ .fields vs)→∃ o',h'.get? b = some o'∧o'.data = o.data) : ∀ {l : List Env},Below h l→Below h' l
  | [],_=>trivial
  | env :: rest,⟨hk,⟨L,o,hf,ho,hd⟩,hr⟩=>by
    refine e1a2 (k L o ho hd) fun o' ho' hd'=>?_
    exact ⟨hk,⟨L,o',hf,ho',fun vs=>hd' ▸ hd vs⟩,Below.up k hr⟩
theorem Below.mem {h : Heap} : ∀ {l : List Env},Below h l→∀ b ∈ framesOf l,∃ o,h.get? b = some o∧∀ vs,o.data ≠ .fields vs
  | [],_,b,hb=>by cases hb
  | env :: rest,⟨hk,⟨L,o,hf,ho,hd⟩,hr⟩,b,hb=>by
    have e : framesOf (env :: rest) = L :: framesOf rest:=by unfold framesOf; rw [List.filterMap_cons,hf]
    rw [e] at hb
    rcases List.mem_cons.mp hb with rfl | hb
    · exact ⟨o,ho,hd⟩
    · exact Below.mem hr b hb
section
variable {M : Model} {A : Around} {E : Value→Shared→Prop} {s : Shared} {env : Env}
theorem note_made {base : Heap} {outer : List Env} {L e t : Addr} {c : Value} {Q : Unit→Shared→Prop} (hfr : A.frames = some (env :: outer)) (hl : s.heap.FunFrames base (env :: outer)) (hf : env.frame = some L)
    (he : s.heap.get? e = some (excObj c t)) (hkb : base.StaysIn s.heap) (hen : base.get? e = none)
    (h : ∀ h',Heap.NotedW base (env :: outer) e c (.ref t) (rawInt L) s.heap h'→Q () { s with heap:=h' }) : wpAny M A (noteFrame (.ref e) env) Q E s:=by
  unfold noteFrame
  simp only [hf]
  refine wpAny_bind (wpAny_field he rfl (x:=.none) rfl ?_)
  rw [if_neg (by decide)]
  exact wpAny_entryW hfr hl hf he hkb hen rfl (by simp) rfl h
end
section
variable {prog : Program} {w : World} {A : Around} {E : Value→Shared→Prop} {s : Shared} {env : Env}
theorem stop_caught {outer : List Env} {L e t : Addr} {tx : Expr} {b₀ : Stmt} {suite : List Stmt} {pos : Pos} {Q : Flow→Shared→Prop} (hfr : A.frames = some (env :: outer)) (hf : env.frame = some L) (hl : Below s.heap (env :: outer))
    (he : s.heap.get? e = some (excObj (.type "StopIteration") t))
    (h : ∀ h',(∀ b o,b ≠ e→b ∉ framesOf (env :: outer)→s.heap.get? b = some o→h'.get? b = some o)→s.heap.UpToSlots h' →
      ∀ E',wpAny (model prog w) (A.mark (some (.ref e))) (eval tx env) (fun c s₁=>c = .type "StopIteration" ∧ s₁ = { s with heap:=h' }) E' { s with heap:=h' })
    (hb : ∀ h',(∀ b o,b ≠ e→b ∉ framesOf (env :: outer)→s.heap.get? b = some o→h'.get? b = some o)→s.heap.UpToSlots h' →
      ∀ E',wpAny (model prog w) (A.mark (some (.ref e))) (execs (b₀ :: suite) env) Q E' { s with heap:=h' }) :
    wpAny (model prog w) A (noteFrame (.ref e) env) (fun _ s₂=>wpAny (model prog w) A (setFlight (.ref e) none) (fun _ s₃=>wpAny (model prog w) A (handleBy (.ref e) env [.ExceptHandler (some tx) none (b₀ :: suite) pos]) Q E s₃) E s₂) E s:=by
  have hbase : (hideAll s.heap (e :: framesOf (env :: outer))).StaysIn s.heap:=fun b o x=>of_hideAll _ x
  have hff:=hl.fun (base:=hideAll s.heap (e :: framesOf (env :: outer))) fun b hb=>hideAll_none _ (.tail _ hb)
  have st : ∀ {h' : Heap},(hideAll s.heap (e :: framesOf (env :: outer))).StaysIn h'→∀ b o,b ≠ e→b ∉ framesOf (env :: outer)→s.heap.get? b = some o→h'.get? b = some o:=fun k b o h1 h2 x=>k b o (hideAll_get _ x fun q=>by
    rcases List.mem_cons.mp q with q | q
    · exact h1 q
    · exact h2 q)
  refine note_made hfr hff hf he hbase (hideAll_none _ (.head _)) fun h₁ n₁=>?_
  refine hideG fun zD zhD=>?_
  refine e0a4 n₁ fun a1 a2 a3 a4=>?_
  refine zhD ?_
  clear zhD zD
  refine wpAny_landsW (s:={ s with heap:=h₁ }) (base:=hideAll s.heap (e :: framesOf (env :: outer))) (l:=env :: outer) (e:=e) (cls:=.type "StopIteration") (a0:=.ref t) (L:=L) ⟨a1,hideAll_none _ (.head _),a2,a3⟩ fun h₂ f₂ u₂=>?_
  have u02 : s.heap.UpToSlots h₂:=Heap.UpToSlots.trans a4 u₂
  refine wpAny_handleBy_builtin (X := "StopIteration") (T := "StopIteration") (b:=true) (by rw [isSubtype_type]; kernel_rfl) (by rw [isSubtype_type]; kernel_rfl) isSubtype_stop ?_
  refine wpAny_mono (h h₂ (st f₂.1) u02 _) (fun c s₁ ⟨e1,e2⟩=>⟨e1,?_,?_⟩) fun _ _ x=>x
  · subst e2; exact f₂.there
  · subst e2
    rw [if_pos rfl]
    refine lands_againW (s:={ s with heap:=h₂ }) f₂ fun h₃ f₃ u₃=>?_
    exact hb h₃ (st f₃.1) (Heap.UpToSlots.trans u02 u₃) _
end
end Mine
namespace Mine
open PySem PySem.W PyProof.Rows PySem.Calls
structure Fr1 where
  u : Nat
  p : Nat
  it : Addr
  mw : Addr
noncomputable def Ch (sn : Nat→List Nat) (fin : List Nat) : List Fr1→Nat→Prop
  | [],_=>True
  | f :: st,v=>(∃ pre,(sn f.u).take f.p = pre ++ [v]∧∀ x ∈ pre,x ∈ fin)∧Ch sn fin st f.u
noncomputable def Cl (sn : Nat→List Nat) (fin : List Nat) : List Fr1→Prop
  | []=>True
  | f :: st=>(∀ x ∈ (sn f.u).take f.p,x ∈ fin)∧Ch sn fin st f.u
structure Dp (sn : Nat→List Nat) (n : Nat) (seen fin : List Nat) (st : List Fr1) : Prop where
  nd : (st.map Fr1.u).Nodup
  lt : ∀ f ∈ st,f.u < n
  se : ∀ k,k ∈ seen ↔ (k ∈ st.map Fr1.u ∨ k ∈ fin)
  fi : ∀ i u,fin[i]? = some u→∀ v ∈ sn u,v ∈ fin.take i
  dj : ∀ k ∈ fin,k ∉ st.map Fr1.u
noncomputable def Acyc (sn : Nat→List Nat) (n : Nat) : Prop:=∃ fin : List Nat,(∀ k,k < n→k ∈ fin)∧∀ i u,fin[i]? = some u→∀ v ∈ sn u,v ∈ fin.take i
noncomputable def Cyc (sn : Nat→List Nat) (n : Nat) : Prop:=∃ S : List Nat,S ≠ []∧(∀ x ∈ S,x < n)∧∀ x ∈ S,∃ u ∈ S,x ∈ sn u
noncomputable def wSeen (sn : Nat→List Nat) (seen : List Nat) (r : List Nat) : Nat:=(r.map fun k=>if k ∈ seen then 0 else 1 + (sn k).length).sum
noncomputable def Mz (sn : Nat→List Nat) (n : Nat) (seen : List Nat) (st : List Fr1) : Nat:=wSeen sn seen (List.range n) + (st.map fun f=>(sn f.u).length - f.p).sum
section
variable {sn : Nat→List Nat} {n : Nat} {seen fin : List Nat} {st : List Fr1}
theorem Ch.mono {fin' : List Nat} (hf : ∀ x ∈ fin,x ∈ fin') : ∀ {st : List Fr1} {v : Nat},Ch sn fin st v→Ch sn fin' st v
  | [],_,_=>trivial
  | _ :: _,_,⟨⟨pre,e,h⟩,r⟩=>⟨⟨pre,e,fun x hx=>hf x (h x hx)⟩,Ch.mono hf r⟩
theorem Ch.done {v : Nat} (h : Ch sn fin st v) (hv : v ∈ fin) : Cl sn fin st:=by
  cases st with
  | nil=>trivial
  | cons f st =>
    obtain ⟨⟨pre,e,hp⟩,r⟩:=h
    refine ⟨fun x hx=>?_,r⟩
    rw [e] at hx
    rcases List.mem_append.mp hx with q | q
    · exact hp x q
    · rw [List.mem_singleton.mp q]; exact hv
theorem Dp.seen_fin (o : Dp sn n seen fin st) {v : Nat} (hs : v ∈ seen) (hn : v ∉ st.map Fr1.u) : v ∈ fin:=((o.se v).mp hs).resolve_left hn
theorem Dp.push (o : Dp sn n seen fin st) {v : Nat} (h : Ch sn fin st v) (hs : v ∉ seen) (hv : v < n) (it mw : Addr) : Dp sn n (v :: seen) fin (⟨v,0,it,mw⟩ :: st)∧Cl sn fin (⟨v,0,it,mw⟩ :: st):=by
  have h1 : v ∉ st.map Fr1.u:=fun q=>hs ((o.se v).mpr (.inl q))
  have h2 : v ∉ fin:=fun q=>hs ((o.se v).mpr (.inr q))
  refine ⟨⟨List.nodup_cons.mpr ⟨h1,o.nd⟩,fun f hf=>?_,fun k=>?_,o.fi,fun k hk q=>?_⟩,fun x hx=>by simp at hx,h⟩
  · rcases List.mem_cons.mp hf with rfl | hf
    · exact hv
    · exact o.lt f hf
  · rw [List.mem_cons,o.se k,List.map_cons,List.mem_cons,or_assoc]
  · rcases List.mem_cons.mp q with q | q
    · have e : k = v:=q
      rw [e] at hk; exact h2 hk
    · exact o.dj k hk q
theorem Dp.draw {f : Fr1} (o : Dp sn n seen fin (f :: st)) (h : Cl sn fin (f :: st)) {v : Nat} (hv : (sn f.u)[f.p]? = some v) : Dp sn n seen fin ({ f with p:=f.p + 1 } :: st)∧Ch sn fin ({ f with p:=f.p + 1 } :: st) v:=by
  refine ⟨⟨o.nd,fun g hg=>?_,o.se,o.fi,o.dj⟩,⟨(sn f.u).take f.p,?_,h.1⟩,h.2⟩
  · rcases List.mem_cons.mp hg with rfl | hg
    · exact o.lt f (.head _)
    · exact o.lt g (.tail _ hg)
  · show (sn f.u).take (f.p + 1) = _
    rw [List.take_add_one,hv]; rfl
theorem Dp.pop {f : Fr1} (o : Dp sn n seen fin (f :: st)) (h : Cl sn fin (f :: st)) (hv : (sn f.u)[f.p]? = none) : Dp sn n seen (fin ++ [f.u]) st∧Cl sn (fin ++ [f.u]) st:=by
  have hl : (sn f.u).length ≤ f.p:=by simpa using hv
  have h1 : ∀ x ∈ sn f.u,x ∈ fin:=fun x hx=>h.1 x (by rw [List.take_of_length_le hl]; exact hx)
  have hnd:=List.nodup_cons.mp o.nd
  refine ⟨⟨hnd.2,fun g hg=>o.lt g (.tail _ hg),fun k=>?_,fun i u hi v hv'=>?_,fun k hk q=>?_⟩,?_⟩
  · rw [o.se k,List.map_cons,List.mem_cons,List.mem_append,List.mem_singleton,or_right_comm,or_comm (a:=k = f.u ∨ k ∈ fin),or_comm (a:=k = f.u)]
  · by_cases hlt : i < fin.length
    · rw [List.getElem?_append_left hlt] at hi
      rw [List.take_append_of_le_length (by lia)]
      exact o.fi i u hi v hv'
    · rw [List.getElem?_append_right (by lia)] at hi
      have hi0 : i - fin.length = 0:=by
        rcases Nat.eq_zero_or_pos (i - fin.length) with q | q
        · exact q
        · rw [List.getElem?_eq_none (by simp; lia)] at hi; cases hi
      rw [hi0] at hi
      have e : f.u = u:=by simpa using hi
      have hi' : i = fin.length:=by lia
      rw [hi',List.take_append_of_le_length (Nat.le_refl _),List.take_length]
      exact h1 v (e ▸ hv')
  · rcases List.mem_append.mp hk with hk | hk
    · exact o.dj k hk (.tail _ q)
    · rw [List.mem_singleton.mp hk] at q; exact hnd.1 q
  · have hm : ∀ x ∈ fin,x ∈ fin ++ [f.u]:=fun x hx=>List.mem_append.mpr (.inl hx)
    exact Ch.done (Ch.mono hm h.2) (List.mem_append.mpr (.inr (.head _)))
theorem Ch.path : ∀ {st : List Fr1} {v t : Nat},Ch sn fin st v→t ∈ st.map Fr1.u→∃ S : List Nat,t ∈ S∧(∀ x ∈ S,x ∈ st.map Fr1.u)∧(∃ u ∈ S,v ∈ sn u)∧∀ x ∈ S,x ≠ t→∃ u ∈ S,x ∈ sn u
  | [],_,_,_,ht=>by cases ht
  | f :: st,v,t,⟨⟨pre,e,hp⟩,r⟩,ht=>by
    have hvu : v ∈ sn f.u:=List.mem_of_mem_take (i:=f.p) (by rw [e]; exact List.mem_append.mpr (.inr (.head _)))
    by_cases q : f.u = t
    · exact ⟨[t],.head _,fun x hx=>by rw [List.mem_singleton.mp hx,← q]; exact .head _,⟨t,.head _,q ▸ hvu⟩,fun x hx hne=>absurd (List.mem_singleton.mp hx) hne⟩
    · rcases List.mem_cons.mp ht with ht | ht
      · exact absurd ht.symm q
      · refine hideG fun zD zhD=>?_
        refine e1a4 (Ch.path r ht) fun S h1 h2 zs174 h3=>?_
        refine e1a2 zs174 fun u hu hfu=>?_
        refine zhD ?_
        clear zhD zD
        refine ⟨f.u :: S,.tail _ h1,fun x hx=>?_,⟨f.u,.head _,hvu⟩,fun x hx hne=>?_⟩
        · rcases List.mem_cons.mp hx with rfl | hx
          · exact .head _
          · exact .tail _ (h2 x hx)
        · rcases List.mem_cons.mp hx with rfl | hx
          · exact ⟨u,.tail _ hu,hfu⟩
          · obtain ⟨y,hy,hxy⟩:=h3 x hx hne; exact ⟨y,.tail _ hy,hxy⟩
theorem Dp.cyc (o : Dp sn n seen fin st) {v : Nat} (h : Ch sn fin st v) (hv : v ∈ st.map Fr1.u) : Cyc sn n:=by
  obtain ⟨S,h1,h2,⟨u,hu,hvu⟩,h3⟩:=h.path hv
  refine ⟨S,(fun e=>by rw [e] at h1; exact (List.not_mem_nil h1)),fun x hx=>?_,fun x hx=>?_⟩
  · obtain ⟨f,hf,rfl⟩:=List.mem_map.mp (h2 x hx)
    exact o.lt f hf
  · by_cases q : x = v
    · exact ⟨u,hu,q ▸ hvu⟩
    · exact h3 x hx q
theorem Dp.acyc (o : Dp sn n seen fin []) (h : ∀ k,k < n→k ∈ seen) : Acyc sn n:=⟨fin,fun k hk=>o.seen_fin (h k hk) (by simp),o.fi⟩
theorem wSeen_cons (v : Nat) : ∀ (r : List Nat),v ∉ seen→v ∈ r→wSeen sn (v :: seen) r + (1 + (sn v).length) ≤ wSeen sn seen r:=by
  have le : ∀ r : List Nat,wSeen sn (v :: seen) r ≤ wSeen sn seen r:=fun r=>by
    induction r with
    | nil=>exact Nat.le_refl _
    | cons a r ih =>
      unfold wSeen at ih ⊢
      simp only [List.map_cons,List.sum_cons]
      have : (if a ∈ v :: seen then 0 else 1 + (sn a).length) ≤ (if a ∈ seen then 0 else 1 + (sn a).length):=by
        by_cases q : a ∈ seen
        · rw [if_pos q,if_pos (List.mem_cons_of_mem _ q)]; exact Nat.le_refl _
        · rw [if_neg q]
          by_cases q2 : a ∈ v :: seen
          · rw [if_pos q2]; exact Nat.zero_le _
          · rw [if_neg q2]; exact Nat.le_refl _
      omega
  intro r hs hr
  induction r with
  | nil=>cases hr
  | cons a r ih =>
    have hle:=le r
    unfold wSeen at ih hle ⊢
    simp only [List.map_cons,List.sum_cons]
    rcases List.mem_cons.mp hr with rfl | hr
    · rw [if_pos (List.mem_cons_self ..),if_neg hs]; omega
    · have:=ih hr
      have h2 : (if a ∈ v :: seen then 0 else 1 + (sn a).length) ≤ (if a ∈ seen then 0 else 1 + (sn a).length):=by
        by_cases q : a ∈ seen
        · rw [if_pos q,if_pos (List.mem_cons_of_mem _ q)]; exact Nat.le_refl _
        · rw [if_neg q]
          by_cases q2 : a ∈ v :: seen
          · rw [if_pos q2]; exact Nat.zero_le _
          · rw [if_neg q2]; exact Nat.le_refl _
      omega
theorem Mz_push {v : Nat} (it mw : Addr) (hs : v ∉ seen) (hv : v < n) : Mz sn n (v :: seen) (⟨v,0,it,mw⟩ :: st) + 1 ≤ Mz sn n seen st:=by
  have:=wSeen_cons (sn:=sn) v (List.range n) hs (List.mem_range.mpr hv)
  unfold Mz
  simp only [List.map_cons,List.sum_cons]
  lia
theorem Mz_draw {f : Fr1} {v : Nat} (hv : (sn f.u)[f.p]? = some v) : Mz sn n seen ({ f with p:=f.p + 1 } :: st) + 1 ≤ Mz sn n seen (f :: st):=by
  have : f.p < (sn f.u).length:=by
    rcases Nat.lt_or_ge f.p (sn f.u).length with q | q
    · exact q
    · rw [List.getElem?_eq_none q] at hv; cases hv
  unfold Mz
  simp only [List.map_cons,List.sum_cons]
  lia
theorem Mz_pop {f : Fr1} : Mz sn n seen st ≤ Mz sn n seen (f :: st):=by
  unfold Mz
  simp only [List.map_cons,List.sum_cons]
  lia
end
end Mine
namespace Mine
open PySem PySem.W PyProof.Rows PySem.Calls
structure Ad4 where
  LS : Addr
  LI : Addr
  SE : Addr
  DD : Addr
inductive DP : List Fr1→List (Int × Value)→Prop
  | nil : DP [] []
  | cons {f : Fr1} {st : List Fr1} {kvs : List (Int × Value)} (t : Tok) : DP st kvs→DP (f :: st) (kvs ++ [((f.u : Int),.int (st.length : Nat) t)])
structure Hs (prog : Program) (w : World) (ad : SoAd) (a : Ad4) (seen : List Nat) (st su sv sj : List Fr1) (h : Heap) : Prop where
  ls : Rl a.LS (st.map Fr1.u).reverse h
  li : h.PlainList a.LI ((sj.map fun f=>Value.ref f.mw).reverse).toArray
  se : ∃ c,h.SetOf (intKind prog w) a.SE (fun k=>decide (k ∈ seen.map fun j : Nat=>(j : Int))) c∧c ≤ seen.length
  dd : ∃ kvs,h.DictOf (intKind prog w) a.DD kvs∧DP sv kvs
  fr : ∀ f ∈ su,h.get? f.mw = some (nextMw f.it)∧h.get? f.it = some (itObj (ad.L f.u) f.p)
  nd : (su.map Fr1.it).Nodup
  ne : a.LS ≠ a.LI
  sz : st.length ≤ seen.length∧sj.length ≤ seen.length∧sv.length ≤ seen.length
noncomputable def FrS (fr : List Addr) (hE h : Heap) : Prop:=∀ b ∈ fr,∀ o,hE.get? b = some o→∃ sl,h.get? b = some { o with slots:=sl }
theorem DP.keys : ∀ {st : List Fr1} {kvs : List (Int × Value)},DP st kvs→kvs.map (·.1) = (st.map fun f=>(f.u : Int)).reverse
  | _,_,.nil=>rfl
  | _,_,.cons t d=>by rw [List.map_append,d.keys]; simp
theorem DP.len : ∀ {st : List Fr1} {kvs : List (Int × Value)},DP st kvs→kvs.length = st.length
  | _,_,.nil=>rfl
  | _,_,.cons t d=>by rw [List.length_append,d.len]; simp
theorem valueAt_append (xs ys : List (Int × Value)) (k : Int) : valueAt (xs ++ ys) k = (valueAt xs k).or (valueAt ys k):=by
  unfold valueAt
  rw [List.find?_append]
  cases List.find? (fun kv=>decide (kv.1 = k)) xs <;> simp
theorem DP.at : ∀ {st : List Fr1} {kvs : List (Int × Value)},DP st kvs→∀ k : Nat,(k ∈ st.map Fr1.u→∃ i t,valueAt kvs (k : Int) = some (.int (i : Nat) t)∧i < st.length)∧(k ∉ st.map Fr1.u→valueAt kvs (k : Int) = none)
  | _,_,.nil,k=>⟨fun h=>absurd h (List.not_mem_nil),fun _=>rfl⟩
  | _,_,@DP.cons f st kvs t d,k=>by
    have ih:=d.at k
    rw [valueAt_append]
    refine ⟨fun h=>?_,fun h=>?_⟩
    · by_cases q : k ∈ st.map Fr1.u
      · refine hideG fun zD zhD=>?_
        refine e2a2 (ih.1 q) fun i t' e hi=>?_
        refine zhD ?_
        clear zhD zD
        exact ⟨i,t',by rw [e]; rfl,Nat.lt_succ_of_lt hi⟩
      · rcases List.mem_cons.mp h with e | h
        · refine ⟨st.length,t,?_,Nat.lt_succ_self _⟩
          rw [ih.2 q]
          simp [valueAt,e]
        · exact absurd h q
    · have h1 : k ≠ f.u:=fun e=>h (e ▸ .head _)
      have h2 : k ∉ st.map Fr1.u:=fun q=>h (.tail _ q)
      rw [ih.2 h2]
      have : ¬ ((f.u : Int) = (k : Int)):=by lia
      simp [valueAt,this]
theorem DP.store {st : List Fr1} {kvs : List (Int × Value)} (d : DP st kvs) {v : Nat} {it mw : Addr} {t : Tok} (h : v ∉ st.map Fr1.u) : DP (⟨v,0,it,mw⟩ :: st) (stored kvs (v : Int) (.int (st.length : Nat) t)):=by
  have : kvs.any (fun kv=>decide (kv.1 = (v : Int))) = false:=by
    rw [List.any_eq_false]
    intro kv hkv
    have h1 : kv.1 ∈ kvs.map (·.1):=List.mem_map.mpr ⟨kv,hkv,rfl⟩
    rw [d.keys,List.mem_reverse] at h1
    refine e1a2 (List.mem_map.mp h1) fun f hf e=>?_
    have : ¬ kv.1 = (v : Int):=fun q=>h (List.mem_map.mpr ⟨f,hf,by lia⟩)
    simp [this]
  unfold stored
  rw [this]
  exact .cons t d
theorem DP.pop {f : Fr1} {st : List Fr1} {kvs : List (Int × Value)} (d : DP (f :: st) kvs) (h : f.u ∉ st.map Fr1.u) : DP st (without kvs (f.u : Int)):=by
  cases d with
  | @cons _ _ kvs t d =>
    unfold without
    rw [List.filter_append]
    have h1 : kvs.filter (fun kv=>decide (kv.1 ≠ (f.u : Int))) = kvs:=by
      rw [List.filter_eq_self]
      intro kv hkv
      have h1 : kv.1 ∈ kvs.map (·.1):=List.mem_map.mpr ⟨kv,hkv,rfl⟩
      rw [d.keys,List.mem_reverse] at h1
      refine e1a2 (List.mem_map.mp h1) fun g hg e=>?_
      have : ¬ kv.1 = (f.u : Int):=fun q=>h (List.mem_map.mpr ⟨g,hg,by lia⟩)
      simp [this]
    simp only [h1]
    simpa using d
end Mine
namespace Mine
open PySem PySem.W PyProof.Rows PySem.Calls
section
variable {prog : Program} {w : World} {K : Frag} {mg mb : Str→Option Value} {A : Around} {env : Env} {s0 s s' : Shared} {mt : List Addr} {ρ ρ' : List (Str × PyData)}
theorem Fm.anew {h' : Heap} {tk : Nat} (F : Fm K mg mb s0 env mt ρ s) (hv : ∀ y d,ρ'.lookup y = some d→∃ v,Var env h' y v∧Rp h' mt v d) (hex : ∀ b,(∃ o,s.heap.get? b = some o)→∃ o,h'.get? b = some o)
    (hn : ∀ m,s.heap.Ns env.locals m→h'.Ns env.locals m) (hc : ∀ y b o,env.cells.lookup y = some b→s.heap.get? b = some o→h'.get? b = some o) (k0 : ∀ b o,s0.heap.get? b = some o→h'.get? b = some o) :
    Fm K mg mb s0 env mt ρ' { s with heap:=h',toks:=tk }:=by
  refine ⟨F.gl0,hv,fun b hb=>hex b (F.mex b hb),F.glb,F.blt,F.knd,?_,F.locs,?_,?_,F.cinj,F.cknd⟩
  · refine e2a2 F.keep fun h₁ t₁ e _=>?_
    exact ⟨h',tk,by rw [e],k0⟩
  · refine e1a1 F.lns fun m h=>?_
    exact ⟨m,hn m h⟩
  · intro y c e
    refine e0a2 (F.cels y c e) fun zs257 n=>?_
    refine e2a2 zs257 fun v o ho hd=>?_
    exact ⟨⟨v,o,hc y c o e ho,hd⟩,n⟩
theorem Var.anew {h h' : Heap} {y : Str} {v : Value} (V : Var env h y v) (hn : ∀ m,h.Ns env.locals m→h'.Ns env.locals m) (hc : ∀ y b o,env.cells.lookup y = some b→h.get? b = some o→h'.get? b = some o) : Var env h' y v:=by
  refine e0a2 V fun hf hv=>?_
  refine ⟨hf,?_⟩
  rcases hv with ⟨hl,m,hm,hmx⟩ | ⟨hl,c,hcc,o,ho,hd⟩
  · exact .inl ⟨hl,m,hn m hm,hmx⟩
  · exact .inr ⟨hl,c,hcc,o,hc y c o hcc ho,hd⟩
structure NewIn (s0 : Shared) (env : Env) (outer : List Env) (ms : List Addr) (hK : Heap) (c : Addr) : Prop where
  n0 : s0.heap.get? c = none
  nl : ¬ Loc env c
  nf : c ∉ framesOf outer
  nk : c ∈ ms ∨ hK.get? c = none
noncomputable def Ad4.ms (a : Ad4) (outer : List Env) : List Addr:=a.LS :: a.LI :: a.SE :: a.DD :: framesOf outer
structure Ws (prog : Program) (w : World) (K : Frag) (mg mb : Str→Option Value) (s0 : Shared) (env : Env) (mt : List Addr) (ad : SoAd) (a : Ad4) (outer : List Env) (hE hK : Heap) (seen : List Nat) (st su sv sj : List Fr1) (s : Shared) : Prop where
  F : Fm K mg mb s0 env mt [] s
  n2i : Var env s.heap "n2i" (.ref ad.N)
  stk : Var env s.heap "stack" (.ref a.LS)
  its : Var env s.heap "itstack" (.ref a.LI)
  sen : Var env s.heap "seen" (.ref a.SE)
  nds : Var env s.heap "node2stacki" (.ref a.DD)
  H : Hs prog w ad a seen st su sv sj s.heap
  S : FrS (framesOf outer) hE s.heap
  nS : NewIn s0 env outer (a.ms outer) hK a.LS
  nI : NewIn s0 env outer (a.ms outer) hK a.LI
  nE : NewIn s0 env outer (a.ms outer) hK a.SE
  nD : NewIn s0 env outer (a.ms outer) hK a.DD
  ni : ∀ f ∈ su,NewIn s0 env outer (a.ms outer) hK f.it∧NewIn s0 env outer (a.ms outer) hK f.mw
  K : ∀ b o,b ∉ a.ms outer→¬ Loc env b→hK.get? b = some o→s.heap.get? b = some o
  X : ∀ b,(∃ o,hK.get? b = some o)→∃ o,s.heap.get? b = some o
  V : ∀ y v,y ≠ ("node" : Str)→Var env hK y v→Var env s.heap y v
variable {ad : SoAd} {a : Ad4} {outer : List Env} {hE hK : Heap} {seen seen' : List Nat} {st st' su su' sv sv' sj sj' : List Fr1} {h h' : Heap}
theorem Hs.ext (o : Hs prog w ad a seen st su sv sj h) (k : ∀ b ob,h.get? b = some ob→(b = a.LS ∨ b = a.LI ∨ b = a.SE ∨ b = a.DD ∨ ∃ f ∈ su,b = f.it ∨ b = f.mw)→h'.get? b = some ob) : Hs prog w ad a seen st su sv sj h':=by
  refine ⟨o.ls.at' fun ob e=>k _ ob e (.inl rfl),o.li.at fun ob e=>k _ ob e (.inr (.inl rfl)),?_,?_,fun f hf=>⟨k _ _ (o.fr f hf).1 (.inr (.inr (.inr (.inr ⟨f,hf,.inr rfl⟩)))),k _ _ (o.fr f hf).2 (.inr (.inr (.inr (.inr ⟨f,hf,.inl rfl⟩))))⟩,o.nd,o.ne,o.sz⟩
  · refine hideG fun zD zhD=>?_
    refine e1a2 o.se fun c zs258 hc=>?_
    refine e4a2 zs258 fun ob es ep t ho r=>?_
    refine zhD ?_
    clear zhD zD
    exact ⟨c,⟨ob,es,ep,t,k _ _ ho (.inr (.inr (.inl rfl))),r⟩,hc⟩
  · refine hideG fun zD zhD=>?_
    refine e1a2 o.dd fun kvs hd r=>?_
    refine zhD ?_
    clear zhD zD
    exact ⟨kvs,hd.at fun ob e=>k _ ob e (.inr (.inr (.inr (.inl rfl)))),r⟩
theorem FrS.of (o : FrS (framesOf outer) hE h) (k : ∀ b ob,b ∈ framesOf outer→h.get? b = some ob→∃ sl,h'.get? b = some { ob with slots:=sl }) : FrS (framesOf outer) hE h':=fun b hb ob e=>by
  obtain ⟨sl,e1⟩:=o b hb ob e
  obtain ⟨sl',e2⟩:=k b _ hb e1
  exact ⟨sl',e2⟩
theorem FrS.ext (o : FrS (framesOf outer) hE h) (k : ∀ b ob,b ∈ framesOf outer→h.get? b = some ob→h'.get? b = some ob) : FrS (framesOf outer) hE h':=o.of fun b ob hb e=>⟨ob.slots,k b ob hb e⟩
theorem FrS.below (o : FrS (framesOf outer) hE h) (B : Below hE outer) : Below h outer:=by
  induction outer with
  | nil=>trivial
  | cons env rest ih =>
    refine e0a3 B fun hk zs259 hr=>?_
    refine e2a3 zs259 fun L ob hf ho hd=>?_
    have e : framesOf (env :: rest) = L :: framesOf rest:=by unfold framesOf; rw [List.filterMap_cons,hf]
    rw [e] at o
    refine e1a1 (o L (.head _) ob ho) fun sl e1=>?_
    exact ⟨hk,⟨L,_,hf,e1,hd⟩,ih (fun b hb=>o b (.tail _ hb)) hr⟩
theorem Ws.loc (W : Ws prog w K mg mb s0 env mt ad a outer hE hK seen st su sv sj s) : ∀ b,(b = a.LS ∨ b = a.LI ∨ b = a.SE ∨ b = a.DD ∨ ∃ f ∈ su,b = f.it ∨ b = f.mw)→NewIn s0 env outer (a.ms outer) hK b:=fun b h=>by
  rcases h with rfl | rfl | rfl | rfl | ⟨f,hf,rfl | rfl⟩
  · exact W.nS
  · exact W.nI
  · exact W.nE
  · exact W.nD
  · exact (W.ni f hf).1
  · exact (W.ni f hf).2
theorem Ws.keeps (W : Ws prog w K mg mb s0 env mt ad a outer hE hK seen st su sv sj s) (k : Keeps s s') : Ws prog w K mg mb s0 env mt ad a outer hE hK seen st su sv sj s' :=
  ⟨W.F.keeps k,W.n2i.ext (Keeps.ext k),W.stk.ext (Keeps.ext k),W.its.ext (Keeps.ext k),W.sen.ext (Keeps.ext k),W.nds.ext (Keeps.ext k),W.H.ext fun b ob e _=>Keeps.ext k b ob e,W.S.ext fun b ob _ e=>Keeps.ext k b ob e,W.nS,W.nI,W.nE,W.nD,W.ni,fun b o h1 h2 e=>Keeps.ext k b o (W.K b o h1 h2 e),fun b hb=>let ⟨o,e⟩:=W.X b hb; ⟨o,Keeps.ext k b o e⟩,fun y v h e=>(W.V y v h e).ext (Keeps.ext k)⟩
theorem Ws.kl (W : Ws prog w K mg mb s0 env mt ad a outer hE hK seen st su sv sj s) (k : Kl env ["node"] s s') (F' : Fm K mg mb s0 env mt [] s') (hfl : ∀ b ∈ framesOf outer,¬ Loc env b) : Ws prog w K mg mb s0 env mt ad a outer hE hK seen st su sv sj s' :=
  ⟨F',k.var _ _ (by decide) W.n2i,k.var _ _ (by decide) W.stk,k.var _ _ (by decide) W.its,k.var _ _ (by decide) W.sen,k.var _ _ (by decide) W.nds,W.H.ext fun b ob e hb=>k.ext b ob (W.loc b hb).nl e,
    W.S.ext fun b ob hb e=>k.ext b ob (hfl b hb) e,W.nS,W.nI,W.nE,W.nD,W.ni,fun b o h1 h2 e=>k.ext b o h2 (W.K b o h1 h2 e),fun b hb=>by
      by_cases q : Loc env b
      · exact F'.mex b (F'.locs b q).1
      · obtain ⟨o,e⟩:=W.X b hb; exact ⟨o,k.ext b o q e⟩,fun y v h e=>k.var y v (by simpa using h) (W.V y v h e)⟩
theorem Ws.mut {c : Addr} {tk : Nat} (W : Ws prog w K mg mb s0 env mt ad a outer hE hK seen st su sv sj s) (hc : NewIn s0 env outer (a.ms outer) hK c) (kb : ∀ b ob,b ≠ c→s.heap.get? b = some ob→h'.get? b = some ob) (hex : ∃ o,h'.get? c = some o)
    (H' : Hs prog w ad a seen' st' su' sv' sj' h') (ni' : ∀ f ∈ su',NewIn s0 env outer (a.ms outer) hK f.it∧NewIn s0 env outer (a.ms outer) hK f.mw) : Ws prog w K mg mb s0 env mt ad a outer hE hK seen' st' su' sv' sj' { s with heap:=h',toks:=tk }:=by
  have kL : ∀ b o,Loc env b→s.heap.get? b = some o→h'.get? b = some o:=fun b o hl e=>kb b o (fun q=>hc.nl (q ▸ hl)) e
  have kn : ∀ m,s.heap.Ns env.locals m→h'.Ns env.locals m:=fun m hm=>hm.at' fun o e=>kL _ o (.inl rfl) e
  have kc : ∀ y b o,env.cells.lookup y = some b→s.heap.get? b = some o→h'.get? b = some o:=fun y b o e ho=>kL b o (.inr ⟨y,e⟩) ho
  refine ⟨W.F.anew (fun y d e=>nomatch e) (fun b ⟨o,e⟩=>?_) kn kc fun b o e=>kb b o (fun q=>by rw [q,hc.n0] at e; cases e) (Keeps.ext W.F.keep b o e),W.n2i.anew kn kc,W.stk.anew kn kc,W.its.anew kn kc,W.sen.anew kn kc,W.nds.anew kn kc,H',W.S.ext fun b ob hb e=>kb b ob (fun q=>hc.nf (q ▸ hb)) e,W.nS,W.nI,W.nE,W.nD,ni',fun b o h1 h2 e=>kb b o (fun q=>?_) (W.K b o h1 h2 e),fun b hb=>?_,fun y v h e=>(W.V y v h e).anew kn kc⟩
  · by_cases q : b = c
    · obtain ⟨o',e'⟩:=hex; exact ⟨o',q ▸ e'⟩
    · exact ⟨o,kb b o q e⟩
  · rcases hc.nk with z | z
    · exact h1 (q ▸ z)
    · rw [q,z] at e; cases e
  · by_cases q : b = c
    · obtain ⟨o',e'⟩:=hex; exact ⟨o',q ▸ e'⟩
    · obtain ⟨o,e⟩:=W.X b hb; exact ⟨o,kb b o q e⟩
theorem Ws.fresh (W : Ws prog w K mg mb s0 env mt ad a outer hE hK seen st su sv sj s) (B : Below hE outer) {c : Addr} (hc : s.heap.get? c = none) : NewIn s0 env outer (a.ms outer) hK c:=by
  refine ⟨none_old W.F.keep hc,fun hl=>?_,fun hf=>?_,.inr ?_⟩
  · obtain ⟨o,e⟩:=W.F.mex c (W.F.locs c hl).1
    rw [hc] at e; cases e
  · obtain ⟨o,e,_⟩:=(W.S.below B).mem c hf
    rw [hc] at e; cases e
  · cases q : hK.get? c with
    | none=>rfl
    | some o=>obtain ⟨o',e⟩:=W.X c ⟨o,q⟩; rw [hc] at e; cases e
end
end Mine
namespace Mine
open PySem PySem.W PyProof.Rows PySem.Calls
structure NmY (mg mb : Str→Option Value) : Prop where
  iter : mg "iter" = none∧mb "iter" = some (.builtin "iter")
  set : mg "set" = none∧mb "set" = some (.type "set")
  stop : mg "StopIteration" = none∧mb "StopIteration" = some (.type "StopIteration")
theorem Attribute_any {prog : Program} {w : World} {A : Around} {E : Value→Shared→Prop} {s : Shared} {env : Env} {o : Expr} {attr : Str} {pos : Pos} {Q : Value→Shared→Prop} (hbase : attributeBase o attr env (eval o env) = eval o env)
    (h : wpAny (model prog w) A (eval o env) (fun ov s₁=>wpAny (model prog w) A (getAttr ov attr true) Q E s₁) E s) : wpAny (model prog w) A (eval (.Attribute o attr pos) env) Q E s:=by
  rw [arm_eval_Attribute,hbase]
  exact wpAny_bind (wpAny_mono h (fun ov s₁ h₁=>wpAny_bind (wpAny_standAt (wpAny_bind (wpAny_holding (wpAny_mono h₁ (fun r s₂ h₂=>wpAny_bind (wpAny_letTemporaryGo (wpAny_pure h₂))) fun _ _ e=>e))))) fun _ _ e=>e)
section
variable {prog : Program} {w : World} {K : Frag} {mg mb : Str→Option Value} {A : Around} {env : Env} {s0 s : Shared} {mt mt' : List Addr} {E : Value→Shared→Prop} {Q : Flow→Shared→Prop}
  {ad : SoAd} {a : Ad4} {outer : List Env} {hE hK : Heap} {seen seen' : List Nat} {st su sv sj st' su' sv' sj' : List Fr1} {h : Heap} {x : SoTk} {n : Nat} {np : Nat→Int} {sn : Nat→List Nat} {rv : Value} {po fi : Int}
theorem Ws.node (o : SoB prog w ad x n np sn rv po fi mt' s0.heap) (W : Ws prog w K mg mb s0 env mt ad a outer hE hK seen st su sv sj s) : SoB prog w ad x n np sn rv po fi mt' s.heap:=o.ext (Keeps.ext W.F.keep)
theorem Hs.cls {c : String} (H : Hs prog w ad a seen st su sv sj h) {b : Addr} {ob : Obj} (e : h.get? b = some ob) (hc : ob.cls = .type c) : (b = a.LS ∨ b = a.LI→c = "list")∧(b = a.SE→c = "set")∧(b = a.DD→c = "dict")∧(∀ f ∈ su,(b = f.it→c = "list_iterator")∧(b = f.mw→c = "method-wrapper")):=by
  refine ⟨fun q=>?_,fun q=>?_,fun q=>?_,fun f hf=>⟨fun q=>?_,fun q=>?_⟩⟩
  · rcases q with q | q
    · refine e1a2 H.ls fun vs zs161 _=>?_
      refine e1a1 zs161 fun k e1=>?_
      rw [q,e1] at e; cases e; cases hc; rfl
    · refine e1a1 H.li fun k e1=>?_
      rw [q,e1] at e; cases e; cases hc; rfl
  · refine e1a2 H.se fun k zs162 _=>?_
    refine e4a3 zs162 fun o2 es ep t e1 hx _=>?_
    rw [q,e1] at e; cases e
    rw [hx.1] at hc; cases hc; rfl
  · refine e1a2 H.dd fun kvs zs163 _=>?_
    refine e3a3 zs163 fun o2 es ep e1 hx _=>?_
    rw [q,e1] at e; cases e
    rw [hx.1] at hc; cases hc; rfl
  · rw [q,(H.fr f hf).2] at e; cases e; cases hc; rfl
  · rw [q,(H.fr f hf).1] at e; cases e; cases hc; rfl
theorem Hs.atSE (H : Hs prog w ad a seen st su sv sj h) : ∃ ob,h.get? a.SE = some ob∧ob.cls = .type "set" := let ⟨_,⟨ob,_,_,_,e,hx,_⟩,_⟩:=H.se; ⟨ob,e,hx.1⟩
theorem Hs.atDD (H : Hs prog w ad a seen st su sv sj h) : ∃ ob,h.get? a.DD = some ob∧ob.cls = .type "dict" := let ⟨_,⟨ob,_,_,e,hx,_⟩,_⟩:=H.dd; ⟨ob,e,hx.1⟩
theorem Hs.setSE {h' : Heap} {c : Nat} (H : Hs prog w ad a seen st su sv sj h) (kb : ∀ b ob,b ≠ a.SE→h.get? b = some ob→h'.get? b = some ob) {v : Nat} (S : h'.SetOf (intKind prog w) a.SE (fun k=>decide (k ∈ (v :: seen).map fun j : Nat=>(j : Int))) c) (hc : c ≤ seen.length + 1) : Hs prog w ad a (v :: seen) st su sv sj h':=by
  refine e1a2 H.atSE fun ob e hx=>?_
  refine e0a4 (H.cls e hx) fun n1 _ n3 n4=>?_
  have ll : a.LS ≠ a.SE:=fun q=>absurd (n1 (.inl q.symm)) (by decide)
  have li : a.LI ≠ a.SE:=fun q=>absurd (n1 (.inr q.symm)) (by decide)
  have ld : a.DD ≠ a.SE:=fun q=>absurd (n3 q.symm) (by decide)
  refine e1a2 H.dd fun kvs hd hp=>?_
  exact ⟨H.ls.at' fun o x=>kb _ o ll x,H.li.at fun o x=>kb _ o li x,⟨c,S,hc⟩,⟨kvs,hd.at fun o x=>kb _ o ld x,hp⟩,fun f hf=>⟨kb _ _ (fun q=>absurd ((n4 f hf).2 q.symm) (by decide)) (H.fr f hf).1,kb _ _ (fun q=>absurd ((n4 f hf).1 q.symm) (by decide)) (H.fr f hf).2⟩,H.nd,H.ne,by
    have:=H.sz; simp only [List.length_cons]; lia⟩
theorem Hs.setDD {h' : Heap} {kvs' : List (Int × Value)} (H : Hs prog w ad a seen st su sv sj h) (kb : ∀ b ob,b ≠ a.DD→h.get? b = some ob→h'.get? b = some ob) (S : h'.DictOf (intKind prog w) a.DD kvs') (hp : DP sv' kvs') (hz : sv'.length ≤ seen.length) : Hs prog w ad a seen st su sv' sj h':=by
  refine e1a2 H.atDD fun ob e hx=>?_
  refine e0a4 (H.cls e hx) fun n1 n2 _ n4=>?_
  have ll : a.LS ≠ a.DD:=fun q=>absurd (n1 (.inl q.symm)) (by decide)
  have li : a.LI ≠ a.DD:=fun q=>absurd (n1 (.inr q.symm)) (by decide)
  have ls : a.SE ≠ a.DD:=fun q=>absurd (n2 q.symm) (by decide)
  refine e1a2 H.se fun c zs164 hc=>?_
  refine e4a2 zs164 fun o2 es ep t ho r=>?_
  exact ⟨H.ls.at' fun o x=>kb _ o ll x,H.li.at fun o x=>kb _ o li x,⟨c,⟨o2,es,ep,t,kb _ _ ls ho,r⟩,hc⟩,⟨kvs',S,hp⟩,fun f hf=>⟨kb _ _ (fun q=>absurd ((n4 f hf).2 q.symm) (by decide)) (H.fr f hf).1,kb _ _ (fun q=>absurd ((n4 f hf).1 q.symm) (by decide)) (H.fr f hf).2⟩,H.nd,H.ne,⟨H.sz.1,H.sz.2.1,hz⟩⟩
theorem Hs.setLS {h' : Heap} (H : Hs prog w ad a seen st su sv sj h) (kb : ∀ b ob,b ≠ a.LS→h.get? b = some ob→h'.get? b = some ob) (S : Rl a.LS (st'.map Fr1.u).reverse h') (hz : st'.length ≤ seen.length) : Hs prog w ad a seen st' su sv sj h':=by
  refine e1a2 H.ls fun vs zs165 _=>?_
  refine e1a1 zs165 fun k e=>?_
  refine e0a4 (H.cls e (c := "list") rfl) fun _ n2 n3 n4=>?_
  have li : a.LI ≠ a.LS:=H.ne.symm
  have ls : a.SE ≠ a.LS:=fun q=>absurd (n2 q.symm) (by decide)
  have ld : a.DD ≠ a.LS:=fun q=>absurd (n3 q.symm) (by decide)
  refine e1a2 H.se fun c zs166 hc=>?_
  refine e4a2 zs166 fun o2 es ep t ho r=>?_
  refine e1a2 H.dd fun kvs hd hp=>?_
  exact ⟨S,H.li.at fun o x=>kb _ o li x,⟨c,⟨o2,es,ep,t,kb _ _ ls ho,r⟩,hc⟩,⟨kvs,hd.at fun o x=>kb _ o ld x,hp⟩,fun f hf=>⟨kb _ _ (fun q=>absurd ((n4 f hf).2 q.symm) (by decide)) (H.fr f hf).1,kb _ _ (fun q=>absurd ((n4 f hf).1 q.symm) (by decide)) (H.fr f hf).2⟩,H.nd,H.ne,⟨hz,H.sz.2.1,H.sz.2.2⟩⟩
theorem Hs.setLI {h' : Heap} (H : Hs prog w ad a seen st su sv sj h) (kb : ∀ b ob,b ≠ a.LI→h.get? b = some ob→h'.get? b = some ob) (S : h'.PlainList a.LI ((sj'.map fun f=>Value.ref f.mw).reverse).toArray)
    (hf' : ∀ f ∈ su',f ∈ su ∨ (h'.get? f.mw = some (nextMw f.it)∧h'.get? f.it = some (itObj (ad.L f.u) f.p))) (nd' : (su'.map Fr1.it).Nodup) (hz : sj'.length ≤ seen.length) : Hs prog w ad a seen st su' sv sj' h':=by
  refine e1a1 H.li fun k e=>?_
  refine e0a4 (H.cls e (c := "list") rfl) fun _ n2 n3 n4=>?_
  have ls : a.SE ≠ a.LI:=fun q=>absurd (n2 q.symm) (by decide)
  have ld : a.DD ≠ a.LI:=fun q=>absurd (n3 q.symm) (by decide)
  refine e1a2 H.se fun c zs167 hc=>?_
  refine e4a2 zs167 fun o2 es ep t ho r=>?_
  refine e1a2 H.dd fun kvs hd hp=>?_
  refine ⟨H.ls.at' fun o x=>kb _ o H.ne x,S,⟨c,⟨o2,es,ep,t,kb _ _ ls ho,r⟩,hc⟩,⟨kvs,hd.at fun o x=>kb _ o ld x,hp⟩,fun f hf=>?_,nd',H.ne,⟨H.sz.1,hz,H.sz.2.2⟩⟩
  rcases hf' f hf with hf | hf
  · exact ⟨kb _ _ (fun q=>absurd ((n4 f hf).2 q.symm) (by decide)) (H.fr f hf).1,kb _ _ (fun q=>absurd ((n4 f hf).1 q.symm) (by decide)) (H.fr f hf).2⟩
  · exact hf
theorem Hs.setIt {h' : Heap} {f g : Fr1} (H : Hs prog w ad a seen st (f :: su) sv (f :: sj) h) (kb : ∀ b ob,b ≠ f.it→h.get? b = some ob→h'.get? b = some ob) (hg : g.u = f.u∧g.it = f.it∧g.mw = f.mw) (e' : h'.get? f.it = some (itObj (ad.L f.u) g.p)) : Hs prog w ad a seen st (g :: su) sv (g :: sj) h':=by
  refine e0a2 (H.fr f (.head _)) fun em ei=>?_
  refine e0a4 (H.cls ei (c := "list_iterator") rfl) fun n1 n2 n3 n4=>?_
  have ll : a.LS ≠ f.it:=fun q=>absurd (n1 (.inl q.symm)) (by decide)
  have li : a.LI ≠ f.it:=fun q=>absurd (n1 (.inr q.symm)) (by decide)
  have ls : a.SE ≠ f.it:=fun q=>absurd (n2 q.symm) (by decide)
  have ld : a.DD ≠ f.it:=fun q=>absurd (n3 q.symm) (by decide)
  have nd:=H.nd
  rw [List.map_cons,List.nodup_cons] at nd
  refine e1a2 H.se fun c zs168 hc=>?_
  refine e4a2 zs168 fun o2 es ep t ho r=>?_
  refine e1a2 H.dd fun kvs hd hp=>?_
  refine ⟨H.ls.at' fun o x=>kb _ o ll x,by
    have:=H.li.at fun o x=>kb _ o li x
    rw [List.map_cons] at this ⊢
    rw [hg.2.2]; exact this,⟨c,⟨o2,es,ep,t,kb _ _ ls ho,r⟩,hc⟩,⟨kvs,hd.at fun o x=>kb _ o ld x,hp⟩,fun k hk=>?_,by rw [List.map_cons,List.nodup_cons,hg.2.1]; exact nd,H.ne,H.sz⟩
  rcases List.mem_cons.mp hk with rfl | hk
  · refine ⟨?_,?_⟩
    · rw [hg.2.2,hg.2.1]; exact kb _ _ (fun q=>absurd ((n4 f (.head _)).2 q.symm) (by decide)) em
    · rw [hg.2.1,hg.1]; exact e'
  · exact ⟨kb _ _ (fun q=>absurd ((n4 k (.tail _ hk)).2 q.symm) (by decide)) (H.fr k (.tail _ hk)).1,kb _ _ (fun q=>nd.1 (List.mem_map.mpr ⟨k,hk,q⟩)) (H.fr k (.tail _ hk)).2⟩
end
end Mine
namespace Mine
open PySem PySem.W PyProof.Rows PySem.Calls
section
variable {prog : Program} {w : World} {K : Frag} {mg mb : Str→Option Value} {A : Around} {env : Env} {s0 s : Shared} {mt mt' : List Addr} {E : Value→Shared→Prop} {Q : Flow→Shared→Prop}
  {ad : SoAd} {a : Ad4} {outer : List Env} {hE hK : Heap} {seen seen' : List Nat} {st su sv sj st' su' sv' sj' : List Fr1} {h : Heap} {x : SoTk} {n : Nat} {np : Nat→Int} {sn : Nat→List Nat} {rv : Value} {po fi : Int}
set_option maxHeartbeats 4000000 in
theorem visit {v : Nat} {t : Tok} {p1 p2 p3 p4 p5 q1 q2 q3 q4 q5 q6 q7 q8 q9 q10 q11 r1 r2 r3 r4 r5 r6 r7 u1 u2 u3 u4 u5 : Pos} (N : Nm mg mb) (NY : NmY mg mb) (SK : SoK K) (hi : interactive env = false)
    (kI : env.kindOf "iter" = some .globalImplicit) (kL : env.kindOf "len" = some .globalImplicit)
    (W : Ws prog w K mg mb s0 env mt ad a outer hE hK seen st st st st s) (B : Below hE outer) (hv : Var env s.heap "node" (.int (v : Nat) t)) (o : SoB prog w ad x n np sn rv po fi mt' s0.heap) (hvn : v < n) (hns : v ∉ seen) (hnst : v ∉ st.map Fr1.u) (hsz : seen.length ≤ 3000)
    (hQ : ∀ s' it mw,Ws prog w K mg mb s0 env mt ad a outer hE hK (v :: seen) (⟨v,0,it,mw⟩ :: st) (⟨v,0,it,mw⟩ :: st) (⟨v,0,it,mw⟩ :: st) (⟨v,0,it,mw⟩ :: st) s'→Q .next s')
    (l1 : (p2.endLine == p4.line) = true) (l2 : (q2.endLine == q10.line) = true) (l3 : (u2.endLine == u4.line) = true) :
    wpAny (model prog w) A (execs [.Expr (.Call (.Attribute (.Name "seen" p1) "add" p2) [.Name "node" p3] [] p4) p5,
      .Expr (.Call (.Attribute (.Name "itstack" q1) "append" q2) [.Attribute (.Call (.Name "iter" q3) [.Attribute (.Subscript (.Name "n2i" q4) (.Name "node" q5) q6) "successors" q7] [] q8) "__next__" q9] [] q10) q11,
      .Assign [.Subscript (.Name "node2stacki" r1) (.Name "node" r2) r3] (.Call (.Name "len" r4) [.Name "stack" r5] [] r6) r7,
      .Expr (.Call (.Attribute (.Name "stack" u1) "append" u2) [.Name "node" u3] [] u4) u5] env) Q E s:=by
  have sz0:=W.H.sz
  refine hideG fun zD zhD=>?_
  refine e1a2 W.H.se fun c hSE hc=>?_
  refine zhD ?_
  clear zhD zD
  refine wpAny_execs_cons (wpAny_Expr (wpAny_Call_method rfl (by rfl) l1 PySem.F.plainAttrs_set PySem.F.slot_set_add PySem.F.type_set_add (wpAny_Name (W.sen.load ⟨hSE.typeIs,hSE.noDict,?_⟩) (by decide))) hi rfl)
  refine callWith_builtin rfl (args1 (wpAny_Name (hv.load ?_) (by decide)))
  refine call_set_add (k:=(v : Int)) (intKind_is prog w v t) rfl hSE (by show c + 1 < 4096; lia) fun h1 hs1 S1=>?_
  have W1 : Ws prog w K mg mb s0 env mt ad a outer hE hK (v :: seen) st st st st { s with heap:=h1,toks:=s.toks + 1 }:=by
    refine W.mut W.nE hs1.extBut (let ⟨_,_,_,_,e,_⟩:=S1; ⟨_,e⟩) (W.H.setSE hs1.extBut (v:=v) (c:=if decide ((v : Int) ∈ seen.map fun j : Nat=>(j : Int)) then c else c + 1) ?_ ?_) W.ni
    · have e : (fun k'=>decide (k' ∈ seen.map fun j : Nat=>(j : Int)) || decide (k' = (v : Int))) = fun k' : Int=>decide (k' ∈ (v :: seen).map fun j : Nat=>(j : Int)):=by
        funext k'
        rw [List.map_cons,← Bool.decide_or,decide_eq_decide,List.mem_cons,or_comm]
      rw [← e]; exact S1
    · split <;> lia
  have hv1 : Var env h1 "node" (.int (v : Nat) t):=hv.but (s:=s) (tk:=s.toks + 1) W.nE.nl hs1.extBut
  clear hSE hs1 S1
  generalize hs1 : ({ s with heap:=h1,toks:=s.toks + 1 } : Shared) = s1 at W1
  have hh1 : s1.heap = h1:=by rw [← hs1]
  rw [← hh1] at hv1
  clear W
  have o1:=Ws.node o W1
  refine hideG fun zD zhD=>?_
  refine e2a1 (o1.nd v hvn) fun t1 t2 nd1=>?_
  refine e2a4 ((o1.li v hvn).list_inv) fun La vs eLa _ hLl _=>?_
  refine zhD ?_
  clear zhD zD
  cases eLa
  refine hideG fun zD zhD=>?_
  refine e1a1 W1.H.li fun ki hli=>?_
  refine zhD ?_
  clear zhD zD
  refine wpAny_execs_cons (wpAny_Expr (wpAny_Call_append rfl (by rfl) l2 (by rfl) (wpAny_Name (W1.its.load ⟨a.LI,_,rfl,⟨_,ki,hli,rfl,rfl,rfl⟩,?_⟩) (by decide))) hi rfl)
  refine Attribute_any rfl (Call_Name rfl (nm_b W1.F.sv kI NY.iter.1 NY.iter.2 (callWith_builtin rfl (args1 (Attribute_any rfl (dict_item (k:=(v : Int)) W1.n2i hv1 o1.dict (by rw [nodePairs_at,if_pos hvn]) ?_))))))
  have X1:=W1.F.sv.gl.k
  refine node_get (s:={ s1 with toks:=s1.toks + 1 }) SK X1 nd1 SK.s0 (v:=.ref (ad.L v)) rfl rfl ?_
  refine iter_list (s:={ s1 with toks:=s1.toks + 1 + 1 }) (items:=vs.toArray) (let ⟨k,e⟩:=hLl; ⟨_,e,rfl,k,rfl⟩) ?_
  refine nx_attr (s:={ s1 with heap:=s1.heap.push (itObj (ad.L v) 0),toks:=s1.toks + 1 + 1 }) (vs:=#[.ref (ad.L v),.int 0 0]) (Heap.get?_push_size _ rfl) ?_
  have kp : Keeps s1 { s1 with heap:=(s1.heap.push (itObj (ad.L v) 0)).push (nextMw s1.heap.objs.size),toks:=s1.toks + 1 + 1 + 1 }:=⟨_,_,rfl,fun b ob e=>Heap.get?_push_of_some _ (Heap.get?_push_of_some _ e)⟩
  have W2:=W1.keeps kp
  have hv2:=hv1.ext (Keeps.ext kp)
  have itN:=W1.fresh B (c:=s1.heap.objs.size) (Heap.get?_none_of_le (Nat.le_refl _))
  have mwN:=W1.fresh B (c:=s1.heap.objs.size + 1) (Heap.get?_none_of_le (Nat.le_succ _))
  have itE : ((s1.heap.push (itObj (ad.L v) 0)).push (nextMw s1.heap.objs.size)).get? s1.heap.objs.size = some (itObj (ad.L v) 0):=Heap.get?_push_of_some _ (Heap.get?_push_size _ rfl)
  have mwE : ((s1.heap.push (itObj (ad.L v) 0)).push (nextMw s1.heap.objs.size)).get? (s1.heap.objs.size + 1) = some (nextMw s1.heap.objs.size):=by
    have:=Heap.get?_push_size (s1.heap.push (itObj (ad.L v) 0)) (o:=nextMw s1.heap.objs.size) rfl
    rw [Heap.size_push] at this; exact this
  have eSz : (s1.heap.push (itObj (ad.L v) 0)).objs.size = s1.heap.objs.size + 1:=Heap.size_push ..
  show wpAny _ _ (call (.builtin "list.append") [.ref a.LI,.ref (s1.heap.push (itObj (ad.L v) 0)).objs.size]) _ _ _
  rw [eSz]
  generalize hs2 : ({ s1 with heap:=(s1.heap.push (itObj (ad.L v) 0)).push (nextMw s1.heap.objs.size),toks:=s1.toks + 1 + 1 + 1 } : Shared) = s2 at W2 kp
  have hh2 : s2.heap = (s1.heap.push (itObj (ad.L v) 0)).push (nextMw s1.heap.objs.size):=by rw [← hs2]
  rw [← hh2] at itE mwE hv2
  refine hideG fun zD zhD=>?_
  refine e1a1 W2.H.li fun k2 hli2=>?_
  refine zhD ?_
  clear zhD zD
  have itO : ∀ f ∈ st,f.it ≠ s1.heap.objs.size:=fun f hf q=>by
    have:=(W1.H.fr f hf).2
    rw [q,Heap.get?_none_of_le (Nat.le_refl _)] at this; cases this
  generalize s1.heap.objs.size = it at itN mwN itE mwE itO ⊢
  generalize it + 1 = mw at mwN mwE ⊢
  clear hs2 hh2 kp nd1 hLl hli W1 hv1 o1 X1 eSz
  refine append_at (hsz:=by rw [List.size_toArray,List.length_reverse,List.length_map,sizeLine_eq]; lia) hli2 fun h3 hs3 ho3=>?_
  have W3 : Ws prog w K mg mb s0 env mt ad a outer hE hK (v :: seen) st (⟨v,0,it,mw⟩ :: st) st (⟨v,0,it,mw⟩ :: st) { s2 with heap:=h3,toks:=s2.toks }:=by
    refine W2.mut W2.nI hs3.extBut ⟨_,ho3⟩ (W2.H.setLI hs3.extBut (su':=⟨v,0,it,mw⟩ :: st) (sj':=⟨v,0,it,mw⟩ :: st) ⟨k2 + 1,?_⟩ (fun f hf=>?_) ?_ ?_) fun f hf=>?_
    · rw [ho3,List.map_cons,List.reverse_cons]; simp
    · rcases List.mem_cons.mp hf with rfl | hf
      · refine .inr ⟨hs3.extBut _ _ (fun q=>?_) mwE,hs3.extBut _ _ (fun q=>?_) itE⟩
        · rw [show mw = a.LI from q,hli2] at mwE; simp [nextMw] at mwE
        · rw [show it = a.LI from q,hli2] at itE; simp [itObj] at itE
      · exact .inl hf
    · rw [List.map_cons,List.nodup_cons]
      exact ⟨fun q=>by obtain ⟨f,hf,e⟩:=List.mem_map.mp q; exact itO f hf e,W2.H.nd⟩
    · simp only [List.length_cons]; lia
    · rcases List.mem_cons.mp hf with rfl | hf
      · exact ⟨itN,mwN⟩
      · exact W2.ni f hf
  have hv3 : Var env h3 "node" (.int (v : Nat) t):=hv2.but (s:=s2) (tk:=s2.toks) W2.nI.nl hs3.extBut
  clear hs3 ho3 hli2 itE mwE itO
  generalize hs4 : ({ s2 with heap:=h3,toks:=s2.toks } : Shared) = s3 at W3
  have hh4 : s3.heap = h3:=by rw [← hs4]
  rw [← hh4] at hv3
  clear W2 hv2 hs4 hh4
  refine hideG fun zD zhD=>?_
  refine e1a2 (id W3.H.ls) fun vs4 zs95 hi4=>?_
  refine e1a1 zs95 fun k4 hls=>?_
  have hvl4 : vs4.length = st.length:=by rw [hi4.length,List.length_map,List.length_reverse,List.length_map]
  refine e1a2 W3.H.dd fun kvs hDD hDP=>?_
  refine zhD ?_
  clear zhD zD
  refine wpAny_execs_cons (wpAny_Assign_Subscript (Call_Name rfl (nm_b W3.F.sv kL N.len.1 N.len.2 (callWith_builtin rfl (args1 (wpAny_Name (W3.stk.load ?_) (by decide))))) ) (by rfl))
  refine len_list ⟨_,hls,rfl,_,rfl⟩ (by rw [List.size_toArray,hvl4]; lia) ?_
  rw [List.size_toArray,hvl4]
  refine wpAny_Name (Var.load (s:={ s3 with toks:=s3.toks + 1 + 1 }) W3.nds (wpAny_Name (Var.load (s:={ s3 with toks:=s3.toks + 1 + 1 }) hv3 ?_) (by decide))) (by decide)
  refine wpAny_setItem_pairs (s:={ s3 with toks:=s3.toks + 1 + 1 }) (hsz:=by rw [hDP.len,sizeLine_eq]; lia) (intKind_is prog w (v : Int) t) hDD fun h5 hd5 hs5=>?_
  have W5 : Ws prog w K mg mb s0 env mt ad a outer hE hK (v :: seen) st (⟨v,0,it,mw⟩ :: st) (⟨v,0,it,mw⟩ :: st) (⟨v,0,it,mw⟩ :: st) { s3 with heap:=h5,toks:=s3.toks + 1 + 1 + 1 } :=
    W3.mut W3.nD hs5.extBut (let ⟨_,_,_,e,_⟩:=hd5; ⟨_,e⟩) (W3.H.setDD hs5.extBut hd5 (hDP.store hnst) (by simp only [List.length_cons]; lia)) W3.ni
  have hv5 : Var env h5 "node" (.int (v : Nat) t):=hv3.but (s:=s3) (tk:=s3.toks) W3.nD.nl hs5.extBut
  clear hDD hDP hs5 hd5 hls hi4 hvl4
  generalize hs6 : ({ s3 with heap:=h5,toks:=s3.toks + 1 + 1 + 1 } : Shared) = s5 at W5
  have hh6 : s5.heap = h5:=by rw [← hs6]
  rw [← hh6] at hv5
  clear W3 hv3 hs6 hh6
  refine hideG fun zD zhD=>?_
  refine e1a2 (id W5.H.ls) fun vs6 zs96 hi6=>?_
  refine e1a1 zs96 fun k6 hls6=>?_
  refine zhD ?_
  clear zhD zD
  have hvl6 : vs6.length = st.length:=by rw [hi6.length,List.length_map,List.length_reverse,List.length_map]
  refine wpAny_execs_cons (wpAny_Expr (wpAny_Call_append rfl (by rfl) l3 (by rfl) (wpAny_Name (W5.stk.load ⟨a.LS,_,rfl,⟨_,k6,hls6,rfl,rfl,rfl⟩,?_⟩) (by decide))) hi rfl)
  refine wpAny_Name (hv5.load ?_) (by decide)
  refine append_at (hsz:=by rw [List.size_toArray,hvl6,sizeLine_eq]; lia) hls6 fun h7 hs7 ho7=>wpAny_execs_nil (hQ _ it mw ?_)
  refine W5.mut (tk:=s5.toks) W5.nS hs7.extBut ⟨_,ho7⟩ (W5.H.setLS hs7.extBut (st':=⟨v,0,it,mw⟩ :: st) ?_ (by simp only [List.length_cons]; lia)) W5.ni
  rw [List.map_cons,List.reverse_cons]
  exact Rl.push hi6 ⟨_,ho7⟩
end
end Mine
namespace Mine
open PySem PySem.W PyProof.Rows PySem.Calls
section
variable {prog : Program} {w : World} {K : Frag} {mg mb : Str→Option Value} {A : Around} {env : Env} {s0 s : Shared} {mt mt' : List Addr} {E : Value→Shared→Prop}
  {ad : SoAd} {a : Ad4} {outer : List Env} {hE hK : Heap} {seen seen' : List Nat} {st su sv sj st' su' sv' sj' : List Fr1} {h : Heap} {x : SoTk} {n : Nat} {np : Nat→Int} {sn : Nat→List Nat} {rv : Value} {po fi : Int}
theorem top_call {f : Fr1} {p1 p2 p3 p4 p5 : Pos} {k0 : Nat} {Q : Value→Shared→Prop} (hv : Var env s.heap "itstack" (.ref a.LI)) (hl : s.heap.PlainList a.LI (((f :: su).map fun f=>Value.ref f.mw).reverse).toArray) (hz : (f :: su).length ≤ 100000) (hm : s.heap.get? f.mw = some (nextMw f.it))
    (hc : wpAny (model prog w) A (call (.ref f.mw) []) Q E { s with toks:=s.toks + 1 + 1 }) :
    wpAny (model prog w) A (eval (.Call (.Subscript (.Name "itstack" p1) (.UnaryOp .USub (.Constant (.int 1) k0 p2) p3) p4) [] [] p5) env) Q E s:=by
  show wpAny (model prog w) A (do callWith p5 (← eval (.Subscript (.Name "itstack" p1) (.UnaryOp .USub (.Constant (.int 1) k0 p2) p3) p4) env) [] (backTo p5 (starEach [] env)) (backToKw p5 (keywordEach [] env))) Q E s
  refine wpAny_bind ?_
  have hlen : (((f :: su).map fun f=>Value.ref f.mw).reverse).toArray.size = (f :: su).length:=by rw [List.size_toArray,List.length_reverse,List.length_map]
  refine Subscript_ (wpAny_Name (hv.load (wpAny_UnaryOp (wpAny_Constant_int (neg_int (subscriptTail_builtin (T := "list") ?_ slot_list_getitem.lookup ?_ (by with_unfolding_all rfl) (by intro _; with_unfolding_all rfl)))))) (by decide))
  · obtain ⟨k,e⟩:=hl; exact ⟨_,e,rfl⟩
  · refine wpAny_getItem_list_neg (s:={ s with toks:=s.toks + 1 + 1 }) (items:=(((f :: su).map fun f=>Value.ref f.mw).reverse).toArray) (x:=.ref f.mw) (let ⟨k,e⟩:=hl; ⟨_,e,rfl,k,rfl⟩) (by decide) ?_ (by decide) ?_ ?_
    · rw [hlen]; simp only [List.length_cons]; lia
    · have e : ((-1 : Int) + ((((f :: su).map fun f=>Value.ref f.mw).reverse).toArray.size : Nat)).toNat = su.length:=by rw [hlen]; simp only [List.length_cons]; lia
      rw [e]
      simp
    · exact callWith_mw (s:={ s with toks:=s.toks + 1 + 1 }) (it:=f.it) hm hc
theorem pop_last {l : Addr} {items : List Value} {v : Value} {Q : Value→Shared→Prop} (hl : s.heap.PlainList l (items ++ [v]).toArray) (hz : items.length ≤ 100000)
    (h : ∀ h',h'.PlainList l items.toArray→Heap.SameBut l s.heap h'→Q v { s with heap:=h' }) : wpAny (model prog w) A (call (.builtin "list.pop") [.ref l]) Q E s:=by
  refine e1a1 hl fun k ho=>?_
  refine call_meets PySem.F.slot_list_pop ⟨_,ho,rfl⟩ PySem.F.entry_list_pop (PySem.F.args_list_pop_1 _) (MeetsSeq.list_pop_last l (items ++ [v]).toArray k v (by simp) (by rw [List.size_toArray,List.length_append,sizeLine_eq]; simp; lia)) ⟨ho,?_⟩
  have e : (items ++ [v]).toArray.eraseIdxIfInBounds ((items ++ [v]).toArray.size - 1) = items.toArray:=by
    simp [Array.eraseIdxIfInBounds,List.eraseIdx_append_of_length_le]
  have h1:=get?_update_seq (c := "list") ho (fun xs=>xs.eraseIdxIfInBounds ((items ++ [v]).toArray.size - 1))
  rw [e] at h1
  exact h _ ⟨_,h1⟩ (Heap.SameBut.update ..)
end
end Mine
namespace Mine
open PySem PySem.W PyProof.Rows PySem.Calls
section
variable {prog : Program} {w : World} {K : Frag} {mg mb : Str→Option Value} {A : Around} {env : Env} {s0 s : Shared} {mt mt' : List Addr} {E : Value→Shared→Prop}
  {ad : SoAd} {a : Ad4} {outer : List Env} {hE hK : Heap} {seen seen' : List Nat} {st su sv sj st' su' sv' sj' : List Fr1} {h : Heap} {x : SoTk} {n : Nat} {np : Nat→Int} {sn : Nat→List Nat} {rv : Value} {po fi : Int}
theorem framesOf_cons {L : Addr} (hf : env.frame = some L) : framesOf (env :: outer) = L :: framesOf outer:=by unfold framesOf; rw [List.filterMap_cons,hf]
structure Around4 (s0 : Shared) (env : Env) (outer : List Env) (hE : Heap) : Prop where
  fr : env.frame = some env.locals
  nl : ∀ b ∈ framesOf outer,¬ Loc env b
  n0 : ∀ b ∈ framesOf outer,s0.heap.get? b = none
  be : Below hE outer
theorem Ws.thrown {h1 h' : Heap} {e : Addr} {f : Fr1} {tk : Nat} (W : Ws prog w K mg mb s0 env mt ad a outer hE hK seen st (f :: su) sv sj s) (R : Around4 s0 env outer hE) (x1 : Heap.ExtBut f.it s.heap h1) (xi : ∃ o,h1.get? f.it = some o) (xe : s.heap.get? e = none)
    (k1 : ∀ b o,b ≠ e→b ∉ framesOf (env :: outer)→h1.get? b = some o→h'.get? b = some o) (k2 : h1.UpToSlots h') : Ws prog w K mg mb s0 env mt ad a outer hE hK seen st su sv sj { s with heap:=h',toks:=tk }:=by
  rw [framesOf_cons R.fr] at k1
  refine hideG fun zD zhD=>?_
  refine e0a2 (W.ni f (.head _)) fun nf _=>?_
  refine zhD ?_
  clear zhD zD
  have kb : ∀ b o,b ≠ f.it→b ≠ env.locals→b ∉ framesOf outer→s.heap.get? b = some o→h'.get? b = some o:=fun b o h1 h2 h3 e0=>k1 b o (fun q=>by rw [q,xe] at e0; cases e0) (fun q=>by
    rcases List.mem_cons.mp q with q | q
    · exact h2 q
    · exact h3 q) (x1 b o h1 e0)
  have kn : ∀ m,s.heap.Ns env.locals m→h'.Ns env.locals m:=fun m hm=>k2.ns (hm.at' fun o e0=>x1 _ o (fun q=>nf.nl (q ▸ .inl rfl)) e0)
  have kc : ∀ y b o,env.cells.lookup y = some b→s.heap.get? b = some o→h'.get? b = some o:=fun y b o ey e0=>kb b o (fun q=>nf.nl (q ▸ .inr ⟨y,ey⟩)) (W.F.cels y b ey).2 (fun q=>R.nl b q (.inr ⟨y,ey⟩)) e0
  have ks : ∀ b ob,b ∈ framesOf outer→s.heap.get? b = some ob→∃ sl,h'.get? b = some { ob with slots:=sl }:=fun b ob hb e0=>by
    refine hideG fun zD zhD=>?_
    refine e1a2 ((W.S.below R.be).mem b hb) fun o1 e1 hd=>?_
    refine zhD ?_
    clear zhD zD
    rw [e0] at e1; cases e1
    exact k2 b ob (x1 b ob (fun q=>nf.nf (q ▸ hb)) e0) hd
  have hex : ∀ b,(∃ o,s.heap.get? b = some o)→∃ o,h'.get? b = some o:=fun b ⟨o,e0⟩=>by
    by_cases q1 : b = f.it
    · refine hideG fun zD zhD=>?_
      refine e1a1 xi fun o1 e1=>?_
      refine zhD ?_
      clear zhD zD
      subst q1
      exact ⟨o1,k1 _ o1 (fun q=>by rw [q,xe] at e0; cases e0) (fun q=>by
        rcases List.mem_cons.mp q with q | q
        · exact nf.nl (.inl q)
        · exact nf.nf q) e1⟩
    · by_cases q2 : b = env.locals
      · refine hideG fun zD zhD=>?_
        refine e1a1 W.F.lns fun m hm=>?_
        refine e3a2 (kn m hm) fun o2 es ep e2 _=>?_
        refine zhD ?_
        clear zhD zD
        exact ⟨o2,q2 ▸ e2⟩
      · by_cases q3 : b ∈ framesOf outer
        · obtain ⟨sl,e3⟩:=ks b o q3 e0; exact ⟨_,e3⟩
        · exact ⟨o,kb b o q1 q2 q3 e0⟩
  have hH : Hs prog w ad a seen st su sv sj h':=by
    have nd:=W.H.nd
    rw [List.map_cons,List.nodup_cons] at nd
    refine hideG fun zD zhD=>?_
    refine e0a4 (W.H.cls (W.H.fr f (.head _)).2 (c := "list_iterator") rfl) fun n1 n2 n3 n4=>?_
    have kk : ∀ b o,NewIn s0 env outer (a.ms outer) hK b→b ≠ f.it→s.heap.get? b = some o→h'.get? b = some o:=fun b o N hne e0=>kb b o hne (fun q=>N.nl (.inl q)) N.nf e0
    refine e1a2 W.H.se fun c zs348 hc=>?_
    refine e4a2 zs348 fun o2 es ep t ho r=>?_
    refine e1a2 W.H.dd fun kvs hd hp=>?_
    refine zhD ?_
    clear zhD zD
    exact ⟨W.H.ls.at' fun o e0=>kk _ o W.nS (fun q=>absurd (n1 (.inl q.symm)) (by decide)) e0,W.H.li.at fun o e0=>kk _ o W.nI (fun q=>absurd (n1 (.inr q.symm)) (by decide)) e0,
      ⟨c,⟨o2,es,ep,t,kk _ _ W.nE (fun q=>absurd (n2 q.symm) (by decide)) ho,r⟩,hc⟩,⟨kvs,hd.at fun o e0=>kk _ o W.nD (fun q=>absurd (n3 q.symm) (by decide)) e0,hp⟩,
      fun k hk=>⟨kk _ _ (W.ni k (.tail _ hk)).2 (fun q=>absurd ((n4 k (.tail _ hk)).2 q.symm) (by decide)) (W.H.fr k (.tail _ hk)).1,kk _ _ (W.ni k (.tail _ hk)).1 (fun q=>nd.1 (List.mem_map.mpr ⟨k,hk,q⟩)) (W.H.fr k (.tail _ hk)).2⟩,nd.2,W.H.ne,W.H.sz⟩
  refine ⟨W.F.anew (fun y d e=>nomatch e) hex kn kc fun b o e0=>kb b o (fun q=>by rw [q,nf.n0] at e0; cases e0) (fun q=>by rw [q,(W.F.locs _ (.inl rfl)).2] at e0; cases e0) (fun q=>by rw [R.n0 b q] at e0; cases e0) (Keeps.ext W.F.keep b o e0),
    W.n2i.anew kn kc,W.stk.anew kn kc,W.its.anew kn kc,W.sen.anew kn kc,W.nds.anew kn kc,hH,W.S.of ks,W.nS,W.nI,W.nE,W.nD,fun k hk=>W.ni k (.tail _ hk),fun b o h1 h2 e0=>kb b o (fun q=>?_) (fun q=>h2 (.inl q)) (fun q=>h1 ?_) (W.K b o h1 h2 e0),fun b hb=>hex b (W.X b hb),fun y v h0 e0=>(W.V y v h0 e0).anew kn kc⟩
  · rcases nf.nk with z | z
    · exact h1 (q ▸ z)
    · rw [q,z] at e0; cases e0
  · exact .tail _ (.tail _ (.tail _ (.tail _ q)))
end
end Mine
namespace Mine
open PySem PySem.W PyProof.Rows PySem.Calls
theorem IntsAre.snoc_inv : ∀ {ns : List Int} {vs : List Value} {k : Int},IntsAre vs (ns ++ [k])→∃ us t,vs = us ++ [.int k t]∧IntsAre us ns
  | [],vs,k,h=>by
    refine e2a2 (LoopUnroll_cons h) fun t vs' zr66 h'=>?_
    subst zr66
    rw [IntsAre.nil_inv h']
    exact ⟨[],t,rfl,.nil⟩
  | n :: ns,vs,k,h=>by
    refine e2a2 (LoopUnroll_cons h) fun t vs' zr67 h'=>?_
    subst zr67
    refine e2a2 (IntsAre.snoc_inv h') fun us t' zr68 h2=>?_
    subst zr68
    exact ⟨.int n t :: us,t',rfl,.cons n t h2⟩
where
  LoopUnroll_cons {vs : List Value} {n : Int} {ns : List Int} (h : IntsAre vs (n :: ns)) : ∃ t vs',vs = Value.int n t :: vs'∧IntsAre vs' ns:=h.cons_inv
section
variable {prog : Program} {w : World} {K : Frag} {mg mb : Str→Option Value} {A : Around} {env : Env} {s0 s : Shared} {mt mt' : List Addr} {E : Value→Shared→Prop}
  {ad : SoAd} {a : Ad4} {outer : List Env} {hE hK : Heap} {seen seen' : List Nat} {st su sv sj st' su' sv' sj' : List Fr1} {h : Heap} {x : SoTk} {n : Nat} {np : Nat→Int} {sn : Nat→List Nat} {rv : Value} {po fi : Int}
theorem del_int {d : Addr} {kvs : List (Int × Value)} {k : Int} {t : Tok} {Q : Unit→Shared→Prop} (hD : s.heap.DictOf (intKind prog w) d kvs) (hz : kvs.length ≤ 100000) (hl : (valueAt kvs k).isSome = true)
    (h : ∀ h',h'.DictOf (intKind prog w) d (without kvs k)→Heap.SameBut d s.heap h'→Q () { s with heap:=h',toks:=s.toks + 1 }) : wpAny (model prog w) A (delItem (.ref d) (.int k t)) Q E s:=by
  unfold delItem
  try with_reducible refine wpAny_holding ?_
  refine wpAny_bind (wpAny_sequenceKey hD.typeIs (by decide) ?_)
  refine wpAny_bind (wpAny_callSpecial?_slot (name:=Str.ofString "__delitem__") hD.typeIs PySem.F.slot_dict_delitem
    (call_meetsIn PySem.F.slot_dict_delitem hD.typeIs PySem.F.entry_dict_delitem (PySem.F.args_dict_delitem_2 _ _) (meets_dict_delitem_pairs (intKind prog w) d (intKind_is prog w k t)) ⟨kvs,hD,by rw [sizeLine_eq]; lia,hl,fun h' hmm hs=>?_⟩))
  exact wpAny_pure (h h' hmm hs)
theorem popped {f : Fr1} {q1 q2 q3 q4 q5 q6 r1 r2 r3 r4 : Pos} {Q : Flow→Shared→Prop} (hi : interactive env = false) (W : Ws prog w K mg mb s0 env mt ad a outer hE hK seen (f :: st) st (f :: st) (f :: st) s) (hnd : f.u ∉ st.map Fr1.u) (hsz : seen.length ≤ 3000)
    (hQ : ∀ s',Ws prog w K mg mb s0 env mt ad a outer hE hK seen st st st st s'→Q .next s') (l1 : (q3.endLine == q4.line) = true) (l2 : (r2.endLine == r3.line) = true) :
    wpAny (model prog w) A (execs [.Delete [.Subscript (.Name "node2stacki" q1) (.Call (.Attribute (.Name "stack" q2) "pop" q3) [] [] q4) q5] q6,.Expr (.Call (.Attribute (.Name "itstack" r1) "pop" r2) [] [] r3) r4] env) Q E s:=by
  refine hideG fun zD zhD=>?_
  refine e1a2 W.H.ls fun vs hls hvi=>?_
  refine zhD ?_
  clear zhD zD
  rw [List.map_cons,List.reverse_cons,List.map_append] at hvi
  refine hideG fun zD zhD=>?_
  refine e2a2 (IntsAre.snoc_inv hvi) fun us t zr69 hui=>?_
  subst zr69
  refine zhD ?_
  clear zhD zD
  have hul : us.length = st.length:=by rw [hui.length,List.length_map,List.length_reverse,List.length_map]
  have hsl : st.length + 1 ≤ seen.length:=by have:=W.H.sz.1; simp only [List.length_cons] at this; lia
  refine wpAny_execs_cons (wpAny_Delete (wpAny_deleteEach_cons (wpAny_delete_Subscript (wpAny_Name (W.nds.load (wpAny_Call_method rfl (by rfl) l1 PySem.F.plainAttrs_list PySem.F.slot_list_pop PySem.F.type_list_pop (wpAny_Name (W.stk.load ⟨?_,fun b hb=>?_,?_⟩) (by decide)))) (by decide)))))
  · obtain ⟨k,e⟩:=hls; exact ⟨_,e,rfl⟩
  · obtain ⟨k,e⟩:=hls; cases hb; exact ⟨_,e,rfl⟩
  refine callWith_builtin rfl (evalArgs_nil3 (pop_last hls (by lia) fun h1 hl1 hs1=>?_))
  have W1 : Ws prog w K mg mb s0 env mt ad a outer hE hK seen st st (f :: st) (f :: st) { s with heap:=h1,toks:=s.toks }:=W.mut W.nS hs1.extBut (let ⟨_,e⟩:=hl1; ⟨_,e⟩) (W.H.setLS hs1.extBut ⟨us,hl1,hui⟩ (by lia)) W.ni
  show wpAny _ _ _ _ _ ({ s with heap:=h1,toks:=s.toks } : Shared)
  revert W1
  refine genA ({ s with heap:=h1,toks:=s.toks } : Shared) fun s1 W1=>?_
  clear W hls hs1 hl1
  refine hideG fun zD zhD=>?_
  refine e1a2 W1.H.dd fun kvs hDD hDP=>?_
  refine e2a2 ((hDP.at f.u).1 (.head _)) fun i t' hva _=>?_
  refine zhD ?_
  clear zhD zD
  refine del_int (k:=(f.u : Int)) hDD (by rw [hDP.len]; simp only [List.length_cons]; lia) (by rw [hva]; rfl) fun h2 hd2 hs2=>wpAny_deleteEach_nil ?_
  have W2 : Ws prog w K mg mb s0 env mt ad a outer hE hK seen st st st (f :: st) { s1 with heap:=h2,toks:=s1.toks + 1 }:=W1.mut W1.nD hs2.extBut (let ⟨_,_,_,e,_⟩:=hd2; ⟨_,e⟩) (W1.H.setDD hs2.extBut hd2 (hDP.pop hnd) (by lia)) W1.ni
  show wpAny _ _ _ _ _ ({ s1 with heap:=h2,toks:=s1.toks + 1 } : Shared)
  revert W2
  refine genA ({ s1 with heap:=h2,toks:=s1.toks + 1 } : Shared) fun s2 W2=>?_
  clear W1 hDD hs2 hd2
  have hli:=W2.H.li
  rw [List.map_cons,List.reverse_cons] at hli
  refine wpAny_execs_cons (wpAny_Expr_any (wpAny_Call_method rfl (by rfl) l2 PySem.F.plainAttrs_list PySem.F.slot_list_pop PySem.F.type_list_pop (wpAny_Name (W2.its.load ⟨?_,fun b hb=>?_,?_⟩) (by decide))) hi rfl)
  · obtain ⟨k,e⟩:=hli; exact ⟨_,e,rfl⟩
  · obtain ⟨k,e⟩:=hli; cases hb; exact ⟨_,e,rfl⟩
  refine callWith_builtin rfl (evalArgs_nil3 (pop_last hli (by rw [List.length_reverse,List.length_map]; lia) fun h3 hl3 hs3=>?_))
  refine wpAny_execs_nil (hQ _ (W2.mut (tk:=s2.toks) W2.nI hs3.extBut (let ⟨_,e⟩:=hl3; ⟨_,e⟩) (W2.H.setLI hs3.extBut hl3 (fun g hg=>.inl hg) W2.H.nd (by lia)) W2.ni))
theorem DP.re {f g : Fr1} {kvs : List (Int × Value)} (d : DP (f :: st) kvs) (h : g.u = f.u) : DP (g :: st) kvs:=by
  cases d with
  | cons t d=>rw [← h]; exact .cons t d
theorem Ws.re {f g : Fr1} (W : Ws prog w K mg mb s0 env mt ad a outer hE hK seen (f :: st) su (f :: sv) sj s) (h : g.u = f.u) : Ws prog w K mg mb s0 env mt ad a outer hE hK seen (g :: st) su (g :: sv) sj s :=
  ⟨W.F,W.n2i,W.stk,W.its,W.sen,W.nds,⟨by have:=W.H.ls; rw [List.map_cons] at this ⊢; rw [h]; exact this,W.H.li,W.H.se,let ⟨kvs,a,b⟩:=W.H.dd; ⟨kvs,a,b.re h⟩,W.H.fr,W.H.nd,W.H.ne,W.H.sz⟩,W.S,W.nS,W.nI,W.nE,W.nD,W.ni,W.K,W.X,W.V⟩
set_option maxHeartbeats 8000000 in
theorem back {fin : List Nat} {pw pt px pa pn pc ps pI pU pK pB ph pe q1 q2 q3 q4 q5 q6 r1 r2 r3 r4 pO : Pos} {k0 : Nat} {Q : Flow→Shared→Prop} (NY : NmY mg mb) (hi : interactive env = false) (kS : env.kindOf "StopIteration" = some .globalImplicit) (kN : env.kindOf "node" = some .local)
    (hh : A.handled = none) (hfr : A.frames = some (env :: outer)) (R : Around4 s0 env outer hE) (W : Ws prog w K mg mb s0 env mt ad a outer hE hK seen st st st st s) (D : Dp sn n seen fin st) (C : Cl sn fin st) (o : SoB prog w ad x n np sn rv po fi mt' s0.heap) (hsn : ∀ k,∀ u ∈ sn k,u < n) (hsz : seen.length ≤ 3000)
    (hB : ∀ s' st' fin' v t,Ws prog w K mg mb s0 env mt ad a outer hE hK seen st' st' st' st' s'→Dp sn n seen fin' st'→Ch sn fin' st' v→v < n→Mz sn n seen st' + 1 ≤ Mz sn n seen st→Var env s'.heap "node" (.int (v : Nat) t)→Q .next s')
    (hD : ∀ s' fin',Ws prog w K mg mb s0 env mt ad a outer hE hK seen [] [] [] [] s'→Dp sn n seen fin' []→Q .brk s')
    (l1 : (q3.endLine == q4.line) = true) (l2 : (r2.endLine == r3.line) = true) :
    wpAny (model prog w) A (execs [.While (.Name "stack" pw) [.Try [.Assign [.Name "node" pn] (.Call (.Subscript (.Name "itstack" pI) (.UnaryOp .USub (.Constant (.int 1) k0 pU) px) pc) [] [] ps) pa,.Break pB]
      [.ExceptHandler (some (.Name "StopIteration" pe)) none [.Delete [.Subscript (.Name "node2stacki" q1) (.Call (.Attribute (.Name "stack" q2) "pop" q3) [] [] q4) q5] q6,.Expr (.Call (.Attribute (.Name "itstack" r1) "pop" r2) [] [] r3) r4] ph] [] [] pt] [.Break pO] pK] env) Q E s:=by
  refine wpAny_execs_cons (wpAny_While (codeAny_whileLoop (fun m s'=>∃ st' fin',st'.length = m∧Ws prog w K mg mb s0 env mt ad a outer hE hK seen st' st' st' st' s'∧Dp sn n seen fin' st'∧Cl sn fin' st'∧Mz sn n seen st' ≤ Mz sn n seen st) ?_ st.length ⟨st,fin,rfl,W,D,C,Nat.le_refl _⟩))
  rintro m s1 zhX
  refine hideG fun zD zhD=>?_
  obtain ⟨st1,fin1,rfl,W1,D1,C1,hle⟩:=zhX
  clear W D C
  obtain ⟨vs,hls,hvi⟩:=id W1.H.ls
  refine zhD ?_
  clear zhD zD
  have hvl : vs.length = st1.length:=by rw [hvi.length,List.length_map,List.length_reverse,List.length_map]
  have hst:=W1.H.sz.1
  refine wpAny_isTrue_value (wpAny_Name (W1.stk.load (wpAny_truthy_list (items:=vs.toArray) (let ⟨k,e⟩:=hls; ⟨_,e,rfl,k,rfl⟩) (by rw [List.size_toArray]; lia) ?_)) (by decide))
  have W2:=W1.keeps (Keeps.tok (s:=s1) (s1.toks + 1 + 1))
  show (if (!vs.toArray.isEmpty) = true then wpAny _ _ _ _ _ ({ s1 with toks:=s1.toks + 1 + 1 } : Shared) else wpAny _ _ _ _ _ ({ s1 with toks:=s1.toks + 1 + 1 } : Shared))
  revert W2
  refine genA ({ s1 with toks:=s1.toks + 1 + 1 } : Shared) fun s2 W2=>?_
  clear W1 hls
  cases st1 with
  | nil =>
    have : vs = []:=by simpa using hvl
    subst this
    rw [if_neg (by decide)]
    exact wpAny_execs_cons (wpAny_Break (hD s2 fin1 W2 D1))
  | cons f st1 =>
    have hne : (!vs.toArray.isEmpty) = true:=by
      cases vs with
      | nil=>simp at hvl
      | cons a b=>rfl
    rw [if_pos hne]
    refine hideQE fun QL EL hQL hEL=>?_
    refine hideG fun zD zhD=>?_
    obtain ⟨em,ei⟩:=W2.H.fr f (.head _)
    have hfn : f.u < n:=D1.lt f (.head _)
    obtain ⟨La,us,eLa,_,hLl,hrs⟩:=((Ws.node o W2).li f.u hfn).list_inv
    refine zhD ?_
    clear zhD zD
    cases eLa
    have hui : IntsAre us ((sn f.u).map fun j : Nat=>(j : Int)):=RpA.ints (by rw [List.map_map]; exact hrs)
    have B2:=W2.S.below R.be
    refine wpAny_execs_cons (wpAny_Try_except (wpAny_execs_cons (wpAny_Assign_Name (top_call W2.its W2.H.li (by simp only [List.length_cons] at hst ⊢; lia) em ?_) (by rfl))))
    cases hv : (sn f.u)[f.p]? with
    | some v =>
      obtain ⟨t,hut⟩:=hui.get f.p (v : Int) (by rw [List.getElem?_map,hv]; rfl)
      refine mw_item (s:={ s2 with toks:=s2.toks + 1 + 1 }) em ei (let ⟨k,e⟩:=hLl; ⟨_,e,rfl,k,rfl⟩) (items:=us.toArray) (by simpa using hut) fun h3 e3 hs3=>?_
      have kb3 : ∀ b ob,b ≠ f.it→s2.heap.get? b = some ob→h3.get? b = some ob:=hs3.extBut
      have W3 : Ws prog w K mg mb s0 env mt ad a outer hE hK seen (f :: st1) ({ f with p:=f.p + 1 } :: st1) (f :: st1) ({ f with p:=f.p + 1 } :: st1) { s2 with heap:=h3,toks:=s2.toks + 1 + 1 } :=
        W2.mut (W2.ni f (.head _)).1 kb3 ⟨_,e3⟩ (W2.H.setIt kb3 ⟨rfl,rfl,rfl⟩ e3) fun g hg=>by
          rcases List.mem_cons.mp hg with rfl | hg
          · exact W2.ni f (.head _)
          · exact W2.ni g (.tail _ hg)
      have W4:=W3.re (g:={ f with p:=f.p + 1 }) rfl
      show wpAny _ _ _ _ _ ({ s2 with heap:=h3,toks:=s2.toks + 1 + 1 } : Shared)
      revert W4
      refine genA ({ s2 with heap:=h3,toks:=s2.toks + 1 + 1 } : Shared) fun s3 W4=>?_
      refine hideG fun zD zhD=>?_
      obtain ⟨D2,C2⟩:=D1.draw C1 hv
      refine zhD ?_
      clear zhD zD
      refine W4.F.storeV (.inl kN) [] trivial rfl fun s5 F5 v5 k5=>wpAny_execs_cons (wpAny_Break (hQL _ _ (wpAny_execs_nil (hB s5 _ fin1 v t (W4.kl k5 F5 R.nl) D2 C2 (hsn f.u v (List.mem_of_getElem? hv)) ?_ v5))))
      have:=Mz_draw (sn:=sn) (n:=n) (seen:=seen) (st:=st1) hv
      lia
    | none =>
      have hul : us.length = (sn f.u).length:=by rw [hui.length,List.length_map]
      refine mw_end (s:={ s2 with toks:=s2.toks + 1 + 1 }) hh em ei (let ⟨k,e⟩:=hLl; ⟨_,e,rfl,k,rfl⟩) (items:=us.toArray) (by
        have : (sn f.u).length ≤ f.p:=by simpa using hv
        simp; lia) fun h3 e t3 x3 xi3 he3 hn3=>?_
      have x3' : Heap.ExtBut f.it s2.heap h3:=x3
      have nf:=(W2.ni f (.head _)).1
      have Bh : Below h3 (env :: outer):=by
        refine ⟨by rw [W2.F.knd]; decide,?_,B2.up fun b ob e0 hd=>⟨ob,x3' b ob (fun q=>?_) e0,rfl⟩⟩
        · refine hideG fun zD zhD=>?_
          obtain ⟨m,ob,es,ep,eL,hdL,_⟩:=W2.F.lns
          refine zhD ?_
          clear zhD zD
          exact ⟨env.locals,ob,R.fr,x3' _ _ (fun q=>nf.nl (q ▸ .inl rfl)) eL,fun vs q=>by rw [hdL] at q; cases q⟩
        · rw [q,ei] at e0; cases e0; exact hd _ rfl
      have W3 : ∀ h' tk,(∀ b o,b ≠ e→b ∉ framesOf (env :: outer)→h3.get? b = some o→h'.get? b = some o)→h3.UpToSlots h'→Ws prog w K mg mb s0 env mt ad a outer hE hK seen (f :: st1) st1 (f :: st1) (f :: st1) { s2 with heap:=h',toks:=tk } :=
        fun h' tk k1 k2=>W2.thrown R x3' xi3 hn3 k1 k2
      refine hideG fun zD zhD=>?_
      obtain ⟨D2,C2⟩:=D1.pop C1 hv
      refine zhD ?_
      clear zhD zD
      refine stop_caught (s:={ s2 with heap:=h3,toks:=s2.toks + 1 + 1 }) hfr R.fr Bh he3 (fun h' k1 k2 E'=>nm_b (W3 h' _ k1 k2).F.sv kS NY.stop.1 NY.stop.2 ⟨rfl,rfl⟩) fun h' k1 k2 E'=>?_
      refine popped hi (W3 h' (s2.toks + 1 + 1) k1 k2) (List.nodup_cons.mp D1.nd).1 hsz (fun s5 W5=>wpAny_execs_nil ?_) l1 l2
      exact hQL _ _ ⟨st1.length,Nat.lt_succ_self _,st1,_,rfl,W5,D2,C2,Nat.le_trans Mz_pop hle⟩
end
end Mine
namespace Mine
open PySem PySem.W PyProof.Rows PySem.Calls
section
variable {prog : Program} {w : World} {K : Frag} {mg mb : Str→Option Value} {A : Around} {env : Env} {s0 s : Shared} {mt mt' : List Addr} {E : Value→Shared→Prop}
  {ad : SoAd} {a : Ad4} {outer : List Env} {hE hK : Heap} {seen seen' : List Nat} {st su sv sj st' su' sv' sj' : List Fr1} {h : Heap} {x : SoTk} {n : Nat} {np : Nat→Int} {sn : Nat→List Nat} {rv : Value} {po fi : Int}
theorem list_one {y : Str} {v : Value} {p1 p2 : Pos} {Q : Value→Shared→Prop} (hv : Var env s.heap y v) (hq : Q (.ref s.heap.objs.size) { s with heap:=s.heap.push { cls:=.type "list",data:=.seq #[v] } }) (hd : (y == ("__debug__" : Str)) = false:=by decide) :
    wpAny (model prog w) A (eval (.List [.Name y p1] p2) env) Q E s:=by
  rw [arm_eval_List]
  refine wpAny_bind (wpAny_standAt (wpAny_bind ?_))
  refine spliced_cons (wpAny_Name (hv.load (spliced_nil ?_)) hd)
  unfold newList
  exact wpAny_newObj_type hq (by size_fits)
theorem cycle_list {ls ld : Addr} {vs : List Value} {kvs : List (Int × Value)} {i : Nat} {v : Int} {t t' : Tok} {p1 p2 p3 p4 p5 p6 p7 p8 p9 : Pos} {Q : Value→Shared→Prop}
    (hs : Var env s.heap "stack" (.ref ls)) (hn : Var env s.heap "node" (.int v t)) (hd : Var env s.heap "node2stacki" (.ref ld)) (hls : s.heap.PlainList ls vs.toArray) (hD : s.heap.DictOf (intKind prog w) ld kvs) (hva : valueAt kvs v = some (.int (i : Nat) t')) (hz : vs.length ≤ 100000)
    (hq : ∀ u s' items,Keeps s s'→s'.heap.PlainList u items→(items.size ≠ 0∧items.size ≤ 200000)→s.heap.get? u = none→Q (.ref u) s') :
    wpAny (model prog w) A (eval (.BinOp (.Subscript (.Name "stack" p1) (.Slice (some (.Subscript (.Name "node2stacki" p2) (.Name "node" p3) p4)) none none p5) p6) .Add (.List [.Name "node" p7] p8) p9) env) Q E s:=by
  refine wpAny_BinOp (Subscript_ (wpAny_Name (hs.load (wpAny_Slice (dict_item (s:=s) (k:=v) hd hn hD hva ?_))) (by decide)))
  refine wpAny_pure (wpAny_pure ?_)
  have hl1 : ({ s with heap:=s.heap.push { cls:=.type "slice",data:=.fields #[.int (i : Nat) t',.none,.none] },toks:=s.toks + 1 } : Shared).heap.IsList ls vs.toArray:=by
    refine e1a1 hls fun k e=>?_
    exact ⟨_,Heap.get?_push_of_some _ e,rfl,k,rfl⟩
  refine tail_any (s:={ s with heap:=s.heap.push { cls:=.type "slice",data:=.fields #[.int (i : Nat) t',.none,.none] },toks:=s.toks + 1 }) hl1.typeIs slot_list_getitem.lookup ?_ (by rfl)
  refine wpAny_getItem_list_slice (s:={ s with heap:=s.heap.push { cls:=.type "slice",data:=.fields #[.int (i : Nat) t',.none,.none] },toks:=s.toks + 1 }) (lo:=some (i : Nat)) (hi:=none) (st:=none) hl1 (Heap.IsSliceOf.new ..) (.int _ _) .none .none (by simp) ?_ (by rw [List.size_toArray,sizeLine_eq]; lia)
  have hsz:=slicePick_size_le vs.toArray (some ((i : Nat) : Int)) none none
  generalize slicePick vs.toArray (some ((i : Nat) : Int)) none none = picked at hsz ⊢
  have hv2 : vs.toArray.size = vs.length:=List.size_toArray ..
  have k2 : Keeps s { s with heap:=(s.heap.push { cls:=.type "slice",data:=.fields #[.int (i : Nat) t',.none,.none] }).push { cls:=.type "list",data:=.seq picked },toks:=s.toks + 1 }:=⟨_,_,rfl,fun b o e=>Heap.get?_push_of_some _ (Heap.get?_push_of_some _ e)⟩
  show wpAny _ _ _ _ _ ({ s with heap:=(s.heap.push { cls:=.type "slice",data:=.fields #[.int (i : Nat) t',.none,.none] }).push { cls:=.type "list",data:=.seq picked },toks:=s.toks + 1 } : Shared)
  have e2 : ((s.heap.push { cls:=.type "slice",data:=.fields #[.int (i : Nat) t',.none,.none] }).push { cls:=.type "list",data:=.seq picked }).get? (s.heap.push { cls:=.type "slice",data:=.fields #[.int (i : Nat) t',.none,.none] }).objs.size = some { cls:=.type "list",data:=.seq picked }:=Heap.get?_push_size _ rfl
  generalize (s.heap.push { cls:=.type "slice",data:=.fields #[.int (i : Nat) t',.none,.none] }).objs.size = pl at e2 ⊢
  generalize hs2 : ({ s with heap:=(s.heap.push { cls:=.type "slice",data:=.fields #[.int (i : Nat) t',.none,.none] }).push { cls:=.type "list",data:=.seq picked },toks:=s.toks + 1 } : Shared) = s2 at k2 ⊢
  have hh : s2.heap = (s.heap.push { cls:=.type "slice",data:=.fields #[.int (i : Nat) t',.none,.none] }).push { cls:=.type "list",data:=.seq picked }:=by rw [← hs2]
  rw [← hh] at e2
  clear hl1 hs2 hh
  refine list_one (hn.ext (Keeps.ext k2)) ?_
  refine PySem.P.add_list (s:={ s2 with heap:=s2.heap.push { cls:=.type "list",data:=.seq #[.int v t] } }) (items:=picked) (items2:=#[.int v t]) (n:=0) (n2:=0) (Heap.get?_push_of_some _ e2) (Heap.get?_push_size _ rfl) ?_ (by rw [sizeLine_eq]; have : (#[Value.int v t] : Array Value).size = 1:=rfl; lia)
  refine hq _ _ (picked ++ #[.int v t]) (Keeps.trans' k2 ⟨_,_,rfl,fun b o e=>Heap.get?_push_of_some _ (Heap.get?_push_of_some _ e)⟩) ⟨0,Heap.get?_push_size _ rfl⟩ ⟨by simp,by rw [Array.size_append]; have : (#[Value.int v t] : Array Value).size = 1:=rfl; lia⟩ ?_
  cases q : s.heap.get? (s2.heap.push { cls:=.type "list",data:=.seq #[.int v t] }).objs.size with
  | none=>rfl
  | some o =>
    have:=Heap.get?_push_of_some { cls:=.type "list",data:=.seq #[.int v t] } (Keeps.ext k2 _ _ q)
    exact absurd (Heap.lt_size this) (Nat.lt_irrefl _)
end
end Mine
namespace Mine
open PySem PySem.W PyProof.Rows PySem.Calls
section
variable {prog : Program} {w : World} {K : Frag} {mg mb : Str→Option Value} {A : Around} {env : Env} {s0 s : Shared} {mt mt' : List Addr} {E : Value→Shared→Prop}
  {ad : SoAd} {a : Ad4} {outer : List Env} {hE hK : Heap} {seen : List Nat} {x : SoTk} {n : Nat} {np : Nat→Int} {sn : Nat→List Nat} {rv : Value} {po fi : Int}
set_option maxHeartbeats 8000000 in
theorem walk {fin : List Nat} {v : Nat} {t : Tok} {pw pq p00 p01 p02 p03 p10 p11 p12 p13 d1 d2 d3 d4 d5 d6 d7 d8 d9 d10 c1 c2 c3 c4 c5 b1 b2 b3 b4 b5 b6 b7 b8 b9 b10 b11 e1 e2 e3 e4 e5 e6 e7 u1 u2 u3 u4 u5 pt px pa pn pc ps pI pU pK pB ph pe pS q1 q2 q3 q4 q5 q6 r1 r2 r3 r4 pO : Pos} {k0 k1 : Nat} {Q : Flow→Shared→Prop} (N : Nm mg mb) (NY : NmY mg mb) (SK : SoK K) (hi : interactive env = false)
    (kI : env.kindOf "iter" = some .globalImplicit) (kL : env.kindOf "len" = some .globalImplicit) (kS : env.kindOf "StopIteration" = some .globalImplicit) (kN : env.kindOf "node" = some .local)
    (hh : A.handled = none) (hfr : A.frames = some (env :: outer)) (R : Around4 s0 env outer hE) (W : Ws prog w K mg mb s0 env mt ad a outer hE hK seen [] [] [] [] s) (D : Dp sn n seen fin []) (hv : Var env s.heap "node" (.int (v : Nat) t)) (hvn : v < n) (o : SoB prog w ad x n np sn rv po fi mt' s0.heap) (hsn : ∀ k,∀ u ∈ sn k,u < n)
    {W0 : Nat} (hW0 : W0 ≤ 3000) (hsz : seen.length + wSeen sn seen (List.range n) ≤ W0)
    (hN : ∀ s' seen' fin',Ws prog w K mg mb s0 env mt ad a outer hE hK seen' [] [] [] [] s'→Dp sn n seen' fin' []→(∀ k ∈ seen,k ∈ seen')→v ∈ seen'→seen'.length + wSeen sn seen' (List.range n) ≤ W0→Q .next s')
    (hR : ∀ u s' items st' seen',Ws prog w K mg mb s0 env mt ad a outer hE hK seen' st' st' st' st' s'→Cyc sn n→s'.heap.PlainList u items→(items.size ≠ 0∧items.size ≤ 200000)→u ∉ framesOf outer→Q (.ret (.ref u)) s')
    (l1 : (d2.endLine == d4.line) = true) (l2 : (b2.endLine == b10.line) = true) (l3 : (u2.endLine == u4.line) = true) (l4 : (q3.endLine == q4.line) = true) (l5 : (r2.endLine == r3.line) = true) :
    wpAny (model prog w) A (execs [.While (.Constant (.bool true) k1 pw) [
      .If (.Compare (.Name "node" p00) [.In] [.Name "seen" p01] p02) [.If (.Compare (.Name "node" p10) [.In] [.Name "node2stacki" p11] p12) [.Return (some (.BinOp (.Subscript (.Name "stack" c1) (.Slice (some (.Subscript (.Name "node2stacki" c2) (.Name "node" c3) c4)) none none c5) d6) .Add (.List [.Name "node" d7] d8) d9)) d10] [] p13]
        [.Expr (.Call (.Attribute (.Name "seen" d1) "add" d2) [.Name "node" d3] [] d4) d5,
         .Expr (.Call (.Attribute (.Name "itstack" b1) "append" b2) [.Attribute (.Call (.Name "iter" b3) [.Attribute (.Subscript (.Name "n2i" b4) (.Name "node" b5) b6) "successors" b7] [] b8) "__next__" b9] [] b10) b11,
         .Assign [.Subscript (.Name "node2stacki" e1) (.Name "node" e2) e3] (.Call (.Name "len" e4) [.Name "stack" e5] [] e6) e7,
         .Expr (.Call (.Attribute (.Name "stack" u1) "append" u2) [.Name "node" u3] [] u4) u5] p03,
      .While (.Name "stack" pS) [.Try [.Assign [.Name "node" pn] (.Call (.Subscript (.Name "itstack" pI) (.UnaryOp .USub (.Constant (.int 1) k0 pU) px) pc) [] [] ps) pa,.Break pB]
      [.ExceptHandler (some (.Name "StopIteration" pe)) none [.Delete [.Subscript (.Name "node2stacki" q1) (.Call (.Attribute (.Name "stack" q2) "pop" q3) [] [] q4) q5] q6,.Expr (.Call (.Attribute (.Name "itstack" r1) "pop" r2) [] [] r3) r4] ph] [] [] pt] [.Break pO] pK] [] pq] env) Q E s:=by
  refine wpAny_execs_cons (wpAny_While (codeAny_whileLoop (fun m s'=>∃ seen' fin' st' v' t',Mz sn n seen' st' = m∧Ws prog w K mg mb s0 env mt ad a outer hE hK seen' st' st' st' st' s'∧Dp sn n seen' fin' st'∧Ch sn fin' st' v'∧v' < n∧Var env s'.heap "node" (.int (v' : Nat) t') ∧
    seen'.length + wSeen sn seen' (List.range n) ≤ W0∧(∀ k ∈ seen,k ∈ seen')∧(v ∈ seen' ∨ v' = v)) ?_ _ ⟨seen,fin,[],v,t,rfl,W,D,trivial,hvn,hv,hsz,fun k hk=>hk,.inr rfl⟩))
  clear W D hv hsz t
  rintro m s1 zhX
  refine hideG fun zD zhD=>?_
  obtain ⟨sn1,fin1,st1,v1,t1,rfl,W1,D1,C1,hv1n,hv1,hsz1,hsub,hor⟩:=zhX
  refine zhD ?_
  clear zhD zD
  refine wpAny_isTrue_value (wpAny_Constant_bool (wpAny_truthy_bool ?_))
  rw [if_pos rfl]
  refine hideQE fun QL EL hQL hEL=>?_
  refine hideG fun zD zhD=>?_
  obtain ⟨c,hSE,hc⟩:=W1.H.se
  refine zhD ?_
  clear zhD zD
  refine wpAny_execs_cons (wpAny_If (wpAny_isTrue_Compare1 (wpAny_Name (hv1.load (wpAny_Name (W1.sen.load (wpAny_inSet_of (k:=(v1 : Int)) (intKind_is prog w v1 t1) rfl hSE (wpAny_truthy_bool ?_))) (by decide))) (by decide)) (by with_unfolding_all rfl)))
  have W2:=W1.keeps (Keeps.tok (s:=s1) (s1.toks + 1))
  have hv2:=hv1.ext (Keeps.ext (Keeps.tok (s:=s1) (s1.toks + 1)))
  revert hv2
  revert W2
  refine genA ({ s1 with toks:=s1.toks + 1 } : Shared) fun s2 W2 hv2=>?_
  clear W1 hv1 hSE hc
  have hmem : decide ((v1 : Int) ∈ sn1.map fun j : Nat=>(j : Int)) = decide (v1 ∈ sn1):=by
    rw [decide_eq_decide,List.mem_map]
    exact ⟨fun ⟨j, hj, e⟩ => by have : j = v1:=by lia
                                exact this ▸ hj,fun h=>⟨v1,h,rfl⟩⟩
  rw [hmem]
  have hlen : sn1.length ≤ 3000:=by lia
  by_cases hs : v1 ∈ sn1
  · rw [decide_eq_true hs,if_pos rfl]
    refine hideG fun zD zhD=>?_
    obtain ⟨kvs,hDD,hDP⟩:=W2.H.dd
    refine zhD ?_
    clear zhD zD
    refine wpAny_execs_cons (wpAny_If (wpAny_isTrue_Compare1 (wpAny_Name (hv2.load (wpAny_Name (W2.nds.load (wpAny_in_of (k:=(v1 : Int)) (intKind_is prog w v1 t1) ?_ hDD.mapOf (wpAny_truthy_bool ?_))) (by decide))) (by decide)) (by with_unfolding_all rfl)))
    · have hne : a.DD ≠ sysModules:=fun q=>by
        refine hideG fun zD zhD=>?_
        obtain ⟨ob,e⟩:=SK.sm
        refine zhD ?_
        clear zhD zD
        have:=W2.F.gl0.k _ _ e
        rw [← q,W2.nD.n0] at this; cases this
      exact beq_eq_false_iff_ne.mpr hne
    have W3:=W2.keeps (Keeps.tok (s:=s2) (s2.toks + 1))
    have hv3:=hv2.ext (Keeps.ext (Keeps.tok (s:=s2) (s2.toks + 1)))
    have hDD3 : ({ s2 with toks:=s2.toks + 1 } : Shared).heap.DictOf (intKind prog w) a.DD kvs:=hDD
    revert hDD3
    revert hv3
    revert W3
    refine genA ({ s2 with toks:=s2.toks + 1 } : Shared) fun s3 W3 hv3 hDD3=>?_
    clear W2 hv2 hDD
    by_cases hk : v1 ∈ st1.map Fr1.u
    · refine hideG fun zD zhD=>?_
      obtain ⟨i,t',hva,hi'⟩:=(hDP.at v1).1 hk
      refine zhD ?_
      clear zhD zD
      rw [hva]
      show (if true = true then _ else _)
      rw [if_pos rfl]
      refine hideG fun zD zhD=>?_
      obtain ⟨vs,hls,hvi⟩:=W3.H.ls
      refine zhD ?_
      clear zhD zD
      have hst:=W3.H.sz.1
      refine wpAny_execs_cons (wpAny_Return_some (cycle_list W3.stk hv3 W3.nds hls hDD3 hva (by rw [hvi.length,List.length_map,List.length_reverse,List.length_map]; lia) fun u s4 items k4 hu hne hun=>?_))
      refine hQL _ _ (hR u s4 items st1 sn1 (W3.keeps k4) (D1.cyc C1 hk) hu hne fun q=>?_)
      refine hideG fun zD zhD=>?_
      obtain ⟨ob,e,_⟩:=(W3.S.below R.be).mem u q
      refine zhD ?_
      clear zhD zD
      rw [hun] at e; cases e
    · rw [(hDP.at v1).2 hk]
      show (if false = true then _ else _)
      rw [if_neg (by decide)]
      refine wpAny_execs_nil (wpAny_execs_nil ?_)
      refine back (fin:=fin1) NY hi kS kN hh hfr R W3 D1 (C1.done (D1.seen_fin hs hk)) o hsn hlen (fun s' st' fin' v' t' W' D' C' hn' hm' hv'=>?_) (fun s' fin' W' D'=>?_) l4 l5
      · exact hQL _ _ ⟨_,Nat.lt_of_succ_le hm',sn1,fin',st',v',t',rfl,W',D',C',hn',hv',hsz1,hsub,.inl (hor.elim id fun e=>e ▸ hs)⟩
      · exact hQL _ _ (wpAny_execs_nil (hN s' sn1 fin' W' D' hsub (hor.elim id fun e=>e ▸ hs) hsz1))
  · rw [decide_eq_false hs,if_neg (by decide)]
    have hk : v1 ∉ st1.map Fr1.u:=fun q=>hs ((D1.se v1).mpr (.inl q))
    refine visit N NY SK hi kI kL W2 R.be hv2 o hv1n hs hk hlen (fun s3 it mw W3=>?_) l1 l2 l3
    refine hideG fun zD zhD=>?_
    obtain ⟨D2,C2⟩:=D1.push C1 hs hv1n it mw
    refine zhD ?_
    clear zhD zD
    have hw:=wSeen_cons (sn:=sn) v1 (List.range n) hs (List.mem_range.mpr hv1n)
    have hz2 : (v1 :: sn1).length + wSeen sn (v1 :: sn1) (List.range n) ≤ W0:=by rw [List.length_cons]; lia
    have hmz:=Mz_push (sn:=sn) (n:=n) (st:=st1) it mw hs hv1n
    have hsub2 : ∀ k ∈ seen,k ∈ v1 :: sn1:=fun k hk=>.tail _ (hsub k hk)
    have hor2 : v ∈ v1 :: sn1:=hor.elim (fun h=>.tail _ h) fun e=>e ▸ .head _
    refine back (fin:=fin1) NY hi kS kN hh hfr R W3 D2 C2 o hsn (by lia) (fun s' st' fin' v' t' W' D' C' hn' hm' hv'=>?_) (fun s' fin' W' D'=>?_) l4 l5
    · exact hQL _ _ ⟨_,by lia,v1 :: sn1,fin',st',v',t',rfl,W',D',C',hn',hv',hz2,hsub2,.inl hor2⟩
    · exact hQL _ _ (wpAny_execs_nil (hN s' _ fin' W' D' hsub2 hor2 hz2))
end
end Mine
namespace Mine
open PySem PySem.W PyProof.Rows PySem.Calls
theorem intKind_inv {prog : Program} {w : World} {k : Int} {v : Value} (h : (intKind prog w).is k v = true) : ∃ t,v = .int k t:=by
  cases v <;> simp [intKind,Value.isInt] at h
  subst h; exact ⟨_,rfl⟩
section
variable {prog : Program} {w : World} {K : Frag} {mg mb : Str→Option Value} {A : Around} {env : Env} {ρ ρ' : List (Str × PyData)} {s0 s : Shared} {mt : List Addr} {E : Value→Shared→Prop} {Q : Flow→Shared→Prop}
theorem ex_newobj {x : Str} {p pos : Pos} {e : Expr} {P : Obj→Prop} {rest : List Stmt} (F : Fm K mg mb s0 env mt ρ s) (hx : env.kindOf x = some .local ∨ env.kindOf x = some .cell) (ρ' : List (Str × PyData)) (hs : Sub ρ ρ') (hn : ρ'.lookup x = none) (hfr : ∀ o,P o→Obj.isFreed o = false)
    (he : ∀ Q' : Value→Shared→Prop,(∀ o tk,P o→Q' (.ref s.heap.objs.size) { s with heap:=s.heap.push o,toks:=tk })→wpAny (model prog w) A (eval e env) Q' E s)
    (h : ∀ s' a o,P o→s.heap.get? a = none→¬ Loc env a→Fm K mg mb s0 env (a :: mt) ρ' s'→Var env s'.heap x (.ref a)→s'.heap.get? a = some o→Kl env [x] s s'→wpAny (model prog w) A (execs rest env) Q E s')
    (hsw : swapsWith e (some (.Name x p)) pos.line env = pure false:=by rfl) :
    wpAny (model prog w) A (execs (.Assign [.Name x p] e pos :: rest) env) Q E s:=by
  refine wpAny_execs_cons (wpAny_Assign_Name (he _ fun o tk hP=>?_) hsw)
  have an : s.heap.get? s.heap.objs.size = none:=Heap.get?_none_of_le (Nat.le_refl _)
  generalize ha : s.heap.objs.size = a at an ⊢
  have ho : (s.heap.push o).get? a = some o:=by rw [← ha]; exact Heap.get?_push_size _ (hfr o hP)
  have kp : Keeps s { s with heap:=s.heap.push o,toks:=tk }:=⟨_,_,rfl,fun b ob q=>Heap.get?_push_of_some _ q⟩
  have F1:=F.start (wr:=[a]) kp (fun b hb=>by rcases List.mem_cons.mp hb with rfl | hb; exact an; cases hb)
    (fun b hb=>by rcases List.mem_cons.mp hb with rfl | hb; exact ⟨_,ho⟩; cases hb)
  have aL : ¬ Loc env a:=fun hl=>not_mt F.mex an (F.locs a hl).1
  exact F1.storeV hx ρ' hs hn fun s₂ F2 hv k=>h s₂ a o hP an aL F2 hv (k.ext a _ aL ho) (Kl.trans (Kl.of kp) k)
theorem srcAt_keys {iter : Expr} {kvs : List (Int × Value)} {d : Addr} (hh : A.handled = none) (S : Sv K mg mb env mt ρ s) (hd : (d == sysModules) = false) (hm : s.heap.DictOf (intKind prog w) d kvs) (hn : d ∉ mt)
    (h : ∀ (E : Value→Shared→Prop) (Q : Value→Shared→Prop),Q (.ref d) s→wpAny (model prog w) A (eval iter env) Q E s) : SrcHere prog w A env iter (kvs.map fun p=>.int p.1) mt s:=fun E=>by
  refine h E _ ?_
  refine e3a2 (id hm) fun ob es ep ho r=>?_
  have hat : s.heap.DictAt (intKind prog w) d kvs ep:=⟨ob,es,ho,r⟩
  have hne : d ≠ s.heap.objs.size:=Nat.ne_of_lt (Heap.lt_size ho)
  have W:=Walks.dictKeys (prog:=prog) (w:=w) (knd:=intKind prog w) hh s.heap.objs.size d hne kvs ep
  have hz : kvs.length = (kvs.map fun p=>(PyData.int p.1)).length:=by rw [List.length_map]
  rw [hz] at W
  refine wpAny_pyIter_dict hd hat ⟨Keeps.push _,s.heap.objs.size,[s.heap.objs.size,d],[s.heap.objs.size],_,_,rfl,W,⟨?_,?_⟩,?_,?_,?_,?_,?_,?_⟩
  · refine ⟨_,Heap.get?_push_size _ rfl,rfl,?_⟩
    rw [← hz]; rfl
  · exact hat.at' fun o e=>Heap.get?_push_of_some _ e
  · intro b hb
    rw [Heap.size_push]
    rcases List.mem_cons.mp hb with rfl | hb
    · exact Nat.lt_succ_self _
    · rcases List.mem_cons.mp hb with rfl | hb
      · exact Nat.lt_succ_of_lt (Heap.lt_size ho)
      · cases hb
  · intro b hb
    rcases List.mem_cons.mp hb with rfl | hb
    · exact Heap.get?_none_of_le (Nat.le_refl _)
    · cases hb
  · intro i v _ hv
    refine e2a2 hv fun k x hk hv=>?_
    refine e1a1 (intKind_inv hv) fun t zr395=>?_
    subst zr395
    exact ⟨.int k,by rw [List.getElem?_map,hk]; rfl,.int _ _⟩
  · intro i tg v s' Q E' hst hQ
    refine e1a3 hst.1 fun o ho' hc _=>?_
    exact lot_plain ho' hc (by decide) hQ
  · intro i h hst b hb
    rcases List.mem_cons.mp hb with rfl | hb
    · obtain ⟨o,ho',_⟩:=hst.1; exact ⟨o,ho'⟩
    · cases hb
  · intro b hb
    rcases List.mem_cons.mp hb with rfl | hb
    · exact S.new
    · rcases List.mem_cons.mp hb with rfl | hb
      · exact hn
      · cases hb
end
end Mine
namespace Mine
open PySem PySem.W PyProof.Rows PySem.Calls
section
variable {prog : Program} {w : World} {K : Frag} {mg mb : Str→Option Value} {A : Around} {s : Shared} {mt mt' : List Addr} {E : Value→Shared→Prop}
  {ad : SoAd} {outer : List Env} {x : SoTk} {n : Nat} {np : Nat→Int} {sn : Nat→List Nat} {rv : Value} {po fi : Int}
theorem setOf_new {h : Heap} {a : Addr} {led : Bool} (e : h.get? a = some { cls:=.type "set",dict:=none,data:=.set #[] 0 (.fresh 0 0 led) }) : h.SetOf (intKind prog w) a (fun k=>decide (k ∈ ([] : List Nat).map fun j : Nat=>(j : Int))) 0 :=
  ⟨_,#[],0,_,e,⟨rfl,rfl,rfl⟩,rfl,fun e he=>by simp at he,fun k=>by simp,by decide,by rfl,rfl⟩
set_option maxHeartbeats 8000000 in
theorem cyc_call {Q : Value→Shared→Prop} (N : Nm mg mb) (NY : NmY mg mb) (SK : SoK K) (H : FnAt K 251 fdCyc) (hA : Aok 1 A) (G : Gl K mg mb (hideAll s.heap (framesOf outer))) (o : SoB prog w ad x n np sn rv po fi mt (hidS s (framesOf outer)).heap)
    (hmm : ∀ b ∈ framesOf outer,b ∈ mt) (hex : ∀ a ∈ mt,∃ o,s.heap.get? a = some o) (hfr : A.frames = some outer) (B : Below s.heap outer) (hsn : ∀ k,∀ u ∈ sn k,u < n) (hW0 : wSeen sn [] (List.range n) ≤ 3000)
    (h0 : Acyc sn n→∀ s',Kb (framesOf outer) s s'→FrS (framesOf outer) s.heap s'.heap→Q .none s')
    (h1 : Cyc sn n→∀ u s' items,Kb (framesOf outer) s s'→FrS (framesOf outer) s.heap s'.heap→s'.heap.PlainList u items→(items.size ≠ 0∧items.size ≤ 200000)→u ∉ framesOf outer→Q (.ref u) s') :
    wpAny (model prog w) A (call (.ref 251) [.ref ad.S]) Q E s:=by
  refine self_enter (hid:=framesOf outer) (mt:=mt) (body:=bodyOf (methAt 11 9)) H (by have:=hA.dp; lia) rfl G hmm hex (by kernel_rfl) (show ∀ x ∈ (["self"] : List Str),(scopeOf (methAt 11 9)).names.lookup x = some .local ∨ (scopeOf (methAt 11 9)).names.lookup x = some .cell from by decide +kernel) (fun L=>by kernel_rfl) fun s₂ env k2 he F V locN newm=>?_
  have hA1:=hA.deeper env
  have kd : ∀ y,env.kindOf y = (scopeOf (methAt 11 9)).names.lookup y:=fun y=>by rw [he]; rfl
  have hi : interactive env = false:=by rw [he]; kernel_rfl
  have hfr1 : (A.deeper env).frames = some (env :: outer):=by show A.frames.map _ = _; rw [hfr]; rfl
  have hfe : env.frame = some env.locals:=by rw [he]; rfl
  generalize A.deeper env = A' at hA1 hfr1 ⊢
  refine hideQE fun QT ET hQT hET=>?_
  have hm : ∀ b,Loc env b→b ∈ mtOf env ++ mt:=fun b hb=>(F.locs b hb).1
  have exF : ∀ b ∈ framesOf outer,∃ ob,s.heap.get? b = some ob:=fun b hb=>let ⟨ob,e,_⟩:=B.mem b hb; ⟨ob,e⟩
  have R : Around4 (hidS s (framesOf outer)) env outer s.heap:=⟨hfe,(fun b hb hl=>by
    refine hideG fun zD zhD=>?_
    refine e1a1 (exF b hb) fun ob e=>?_
    refine zhD ?_
    clear zhD zD
    rw [locN b hl] at e; cases e),fun b hb=>hidS_none hb,B⟩
  have o2:=o.ext (Keeps.ext F.keep)
  refine hideG fun zD zhD=>?_
  refine e2a1 o2.sos fun tp tf os2=>?_
  refine zhD ?_
  clear zhD zD
  have S2 : FrS (framesOf outer) s.heap s₂.heap:=fun b hb ob e=>⟨ob.slots,Keeps.ext k2 b ob e⟩
  refine wpAny_execs_cons (wpAny_Assign_Name (so_attr SK F.sv.gl.k V os2 SK.n1 get_n2i rfl ?_) (by kernel_rfl))
  refine (F.keeps (Keeps.tok (s₂.toks + 1))).storeV (.inl (by rw [kd]; kernel_rfl)) [] trivial rfl fun s₃ F₃ v3 k3=>?_
  have S3 : FrS (framesOf outer) s.heap s₃.heap:=(S2.ext fun b ob _ e=>Keeps.ext (Keeps.tok (s:=s₂) (s₂.toks + 1)) b ob e).ext fun b ob hb e=>k3.ext b ob (R.nl b hb) e
  refine ex_newobj F₃ (.inl (by rw [kd]; kernel_rfl)) [] trivial rfl (P:=fun ob=>ob = { cls:=.type "list",data:=.seq ([] : List Value).toArray }) (fun ob q=>by subst q; rfl) (fun Q' hq=>wpAny_List (wpAny_items_nil ⟨by decide,hq _ s₃.toks rfl⟩)) fun s₄ LS ob eb nS lS F₄ v4 e4 k4=>?_
  subst eb
  have v4n:=k4.var _ _ (by decide) v3
  have S4 : FrS (framesOf outer) s.heap s₄.heap:=S3.ext fun b ob hb e=>k4.ext b ob (R.nl b hb) e
  have n04:=none_old F₃.keep nS
  have nF4 : LS ∉ framesOf outer:=fun q=>by
    refine hideG fun zD zhD=>?_
    refine e1a1 (exF _ q) fun ob e=>?_
    refine e1a1 (S3 _ q ob e) fun sl e'=>?_
    refine zhD ?_
    clear zhD zD
    rw [nS] at e'; cases e'
  refine ex_newobj F₄ (.inl (by rw [kd]; kernel_rfl)) [] trivial rfl (P:=fun ob=>ob = { cls:=.type "list",data:=.seq ([] : List Value).toArray }) (fun ob q=>by subst q; rfl) (fun Q' hq=>wpAny_List (wpAny_items_nil ⟨by decide,hq _ s₄.toks rfl⟩)) fun s₅ LI ob eb nI lI F₅ v5 e5 k5=>?_
  subst eb
  have v5n:=k5.var _ _ (by decide) v4n
  have v5s:=k5.var _ _ (by decide) v4
  have e5s:=k5.ext LS _ lS e4
  have S5 : FrS (framesOf outer) s.heap s₅.heap:=S4.ext fun b ob hb e=>k5.ext b ob (R.nl b hb) e
  have n05:=none_old F₄.keep nI
  have nF5 : LI ∉ framesOf outer:=fun q=>by
    refine hideG fun zD zhD=>?_
    refine e1a1 (exF _ q) fun ob e=>?_
    refine e1a1 (S4 _ q ob e) fun sl e'=>?_
    refine zhD ?_
    clear zhD zD
    rw [nI] at e'; cases e'
  have neSI : LS ≠ LI:=fun q=>by rw [q,nI] at e4; cases e4
  refine ex_newobj F₅ (.inl (by rw [kd]; kernel_rfl)) [] trivial rfl (P:=fun ob=>∃ led : Bool,ob = { cls:=.type "set",dict:=none,data:=.set #[] 0 (.fresh 0 0 led) }) (fun ob q=>by obtain ⟨led,q⟩:=q; subst q; rfl)
    (fun Q' hq=>Call_Name rfl (nm_b F₅.sv (by rw [kd]; kernel_rfl) NY.set.1 NY.set.2 (PyProof.Rows.callWith_type rfl (evalArgs_nil3 (call_set_0 fun led=>hq _ s₅.toks ⟨led,rfl⟩))))) fun s₆ SE ob ⟨led,eb⟩ nE lE F₆ v6 e6 k6=>?_
  subst eb
  have v6n:=k6.var _ _ (by decide) v5n
  have v6s:=k6.var _ _ (by decide) v5s
  have v6i:=k6.var _ _ (by decide) v5
  have e6s:=k6.ext LS _ lS e5s
  have e6i:=k6.ext LI _ lI e5
  have S6 : FrS (framesOf outer) s.heap s₆.heap:=S5.ext fun b ob hb e=>k6.ext b ob (R.nl b hb) e
  have n06:=none_old F₅.keep nE
  have nF6 : SE ∉ framesOf outer:=fun q=>by
    refine hideG fun zD zhD=>?_
    refine e1a1 (exF _ q) fun ob e=>?_
    refine e1a1 (S5 _ q ob e) fun sl e'=>?_
    refine zhD ?_
    clear zhD zD
    rw [nE] at e'; cases e'
  refine ex_newobj F₆ (.inl (by rw [kd]; kernel_rfl)) [] trivial rfl (P:=fun ob=>ob = { cls:=.type "dict",data:=.dict #[] }) (fun ob q=>by subst q; rfl) (fun Q' hq=>wpAny_Dict_empty (hq _ s₆.toks rfl)) fun s₇ DD ob eb nD lD F₇ v7 e7 k7=>?_
  subst eb
  have v7n:=k7.var _ _ (by decide) v6n
  have v7s:=k7.var _ _ (by decide) v6s
  have v7i:=k7.var _ _ (by decide) v6i
  have v7e:=k7.var _ _ (by decide) v6
  have e7s:=k7.ext LS _ lS e6s
  have e7i:=k7.ext LI _ lI e6i
  have e7e:=k7.ext SE _ lE e6
  have S7 : FrS (framesOf outer) s.heap s₇.heap:=S6.ext fun b ob hb e=>k7.ext b ob (R.nl b hb) e
  have n07:=none_old F₆.keep nD
  have nF7 : DD ∉ framesOf outer:=fun q=>by
    refine hideG fun zD zhD=>?_
    refine e1a1 (exF _ q) fun ob e=>?_
    refine e1a1 (S6 _ q ob e) fun sl e'=>?_
    refine zhD ?_
    clear zhD zD
    rw [nD] at e'; cases e'
  have H7 : Hs prog w ad ⟨LS,LI,SE,DD⟩ [] [] [] [] [] s₇.heap:=⟨⟨[],⟨0,e7s⟩,.nil⟩,⟨0,e7i⟩,⟨0,setOf_new e7e,Nat.le_refl _⟩,⟨[],⟨_,#[],0,e7,⟨rfl,rfl,rfl⟩,rfl,fun _ he=>by simp at he,Pairs.nil,List.nodup_nil⟩,.nil⟩,fun f hf=>(by cases hf),List.nodup_nil,neSI,by simp⟩
  have hlo:=o.lo
  have o7:=o.ext (Keeps.ext F₇.keep)
  have hmM : ∀ b ∈ (⟨LS,LI,SE,DD⟩ : Ad4).ms outer,b ∈ DD :: SE :: LI :: LS :: (mtOf env ++ mt):=fun b hb=>by
    simp only [Ad4.ms,List.mem_cons] at hb
    simp only [List.mem_cons,List.mem_append]
    rcases hb with rfl | rfl | rfl | rfl | hb
    · simp
    · simp
    · simp
    · simp
    · exact .inr (.inr (.inr (.inr (.inr (hmm b hb)))))
  have hmL : ∀ b ∈ (⟨LS,LI,SE,DD⟩ : Ad4).ms outer,¬ Loc env b:=fun b hb=>by
    simp only [Ad4.ms,List.mem_cons] at hb
    rcases hb with rfl | rfl | rfl | rfl | hb
    · exact lS
    · exact lI
    · exact lE
    · exact lD
    · exact R.nl b hb
  have hNm : ad.N ∉ DD :: SE :: LI :: LS :: (mtOf env ++ mt):=fun q=>by
    refine hideG fun zD zhD=>?_
    refine e3a2 (id o.N) fun ob es ep ho _=>?_
    refine e0a2 (hid_not ho) fun hnm ho0=>?_
    refine zhD ?_
    clear zhD zD
    simp only [List.mem_cons,List.mem_append] at q
    rcases q with q | q | q | q | q | q
    · rw [q,n07] at ho0; cases ho0
    · rw [q,n06] at ho0; cases ho0
    · rw [q,n05] at ho0; cases ho0
    · rw [q,n04] at ho0; cases ho0
    · rcases newm _ (List.mem_append.mpr (.inl q)) with z | z
      · exact hnm z
      · rw [show (hidS s (framesOf outer)).heap = hideAll s.heap (framesOf outer) from rfl] at ho0
        have:=of_hideAll _ ho0
        rw [z] at this; cases this
    · exact hnm q
  have hkeys : ((nodePairs ad.I n).map fun p=>PyData.int p.1) = (List.range n).map fun k : Nat=>.int (k : Nat):=by unfold nodePairs; rw [List.map_map]; rfl
  have hds : SrcHere prog w A' env (.Name "n2i" ⟨252,20,252,23⟩) ((List.range n).map fun k : Nat=>.int (k : Nat)) (DD :: SE :: LI :: LS :: (mtOf env ++ mt)) s₇:=by
    rw [← hkeys]
    exact srcAt_keys hA1.hd F₇.sv hlo o7.dict hNm fun E Q hq=>wpAny_Name (v7n.load hq) (by decide)
  have hEx7 : ∀ b ∈ (⟨LS,LI,SE,DD⟩ : Ad4).ms outer,b ∈ framesOf outer ∨ ((hidS s (framesOf outer)).heap.get? b = none∧b ∉ framesOf outer):=fun b hb=>by
    simp only [Ad4.ms,List.mem_cons] at hb
    rcases hb with rfl | rfl | rfl | rfl | hb
    · exact .inr ⟨n04,nF4⟩
    · exact .inr ⟨n05,nF5⟩
    · exact .inr ⟨n06,nF6⟩
    · exact .inr ⟨n07,nF7⟩
    · exact .inl hb
  refine ex_forXR ["node"] ["node"] ((⟨LS,LI,SE,DD⟩ : Ad4).ms outer) (fun d=>[("node",d)]) (fun _=>[]) (fun i m u=>((Var env u.heap "n2i" (.ref ad.N)∧Var env u.heap "stack" (.ref LS))∧(Var env u.heap "itstack" (.ref LI)∧Var env u.heap "seen" (.ref SE))∧Var env u.heap "node2stacki" (.ref DD)) ∧
      FrS (framesOf outer) s.heap u.heap∧∃ seen fin,Hs prog w ad ⟨LS,LI,SE,DD⟩ seen [] [] [] [] u.heap∧Dp sn n seen fin []∧seen.length + wSeen sn seen (List.range n) ≤ wSeen sn [] (List.range n)∧∀ k,k < i→k ∈ seen) F₇
    ⟨⟨⟨v7n,v7s⟩,⟨v7i,v7e⟩,v7⟩,S7,[],[],H7,⟨List.nodup_nil,fun f hf=>(by cases hf),fun k=>by simp,fun i u hi=>by simp at hi,fun k hk=>(by cases hk)⟩,by simp,fun k hk=>absurd hk (Nat.not_lt_zero k)⟩
    hmM hmL hds (fun d _=>tgtF_name (.inl (by rw [kd]; kernel_rfl))) trivial ?_ ?_ ?_
  · intro i m₁ m₂ u₁ u₂ zi3 mv
    refine e0a3 zi3 fun zs30 b1 zt31=>?_
    refine e2a4 zt31 fun seen fin b2 b3 b4 b5=>?_
    refine e0a3 zs30 fun zs32 zs33 a5=>?_
    refine e0a2 zs32 fun a1 a2=>?_
    refine e0a2 zs33 fun a3 a4=>?_
    refine ⟨⟨⟨mv.var _ _ (by decide) a1,mv.var _ _ (by decide) a2⟩,⟨mv.var _ _ (by decide) a3,mv.var _ _ (by decide) a4⟩,mv.var _ _ (by decide) a5⟩,b1.ext fun b ob hb e=>mv.keep b ob (fun _=>.tail _ (.tail _ (.tail _ (.tail _ hb)))) e,seen,fin,b2.ext fun b ob e hb=>mv.keep b ob (fun _=>?_) e,b3,b4,b5⟩
    rcases hb with rfl | rfl | rfl | rfl | ⟨f,hf,_⟩
    · exact .head _
    · exact .tail _ (.head _)
    · exact .tail _ (.tail _ (.head _))
    · exact .tail _ (.tail _ (.tail _ (.head _)))
    · cases hf
  · intro i d m u hd hmm' G₁ zhX
    rw [List.getElem?_map] at hd
    refine hideQE fun QL EL hQL hEL=>?_
    refine hideG fun zD zhD=>?_
    refine e0a3 zhX fun zs34 b1 zt35=>?_
    refine e2a4 zt35 fun seen fin b2 b3 b4 b5=>?_
    refine e0a3 zs34 fun zs36 zs37 a5=>?_
    refine e0a2 zs36 fun a1 a2=>?_
    refine e0a2 zs37 fun a3 a4=>?_
    refine e1a2 (Option.map_eq_some_iff.mp hd) fun k hk zr38=>?_
    subst zr38
    have hki : i < n∧k = i:=by
      have:=List.getElem?_eq_some_iff.mp hk
      refine e1a1 this fun h1 h2=>?_
      rw [List.getElem_range] at h2
      exact ⟨by simpa using h1,h2.symm⟩
    refine e0a2 hki fun hin zr39=>?_
    subst zr39
    refine e1a2 (G₁.vars "node" _ rfl) fun vn hvn rn=>?_
    refine e1a1 rn.int_inv fun tn zr40=>?_
    subst zr40
    have hmk : ∀ b ∈ (⟨LS,LI,SE,DD⟩ : Ad4).ms outer,b ∉ framesOf outer→NewIn (hidS s (framesOf outer)) env outer ((⟨LS,LI,SE,DD⟩ : Ad4).ms outer) u.heap b:=fun b hb hf=>by
      rcases hEx7 b hb with q | ⟨q1,q2⟩
      · exact absurd q hf
      · exact ⟨q1,hmL b hb,hf,.inl hb⟩
    have W : Ws prog w K mg mb (hidS s (framesOf outer)) env m ad ⟨LS,LI,SE,DD⟩ outer s.heap u.heap seen [] [] [] [] u :=
      ⟨G₁.to _ trivial,a1,a2,a3,a4,a5,b2,b1,hmk LS (.head _) nF4,hmk LI (.tail _ (.head _)) nF5,hmk SE (.tail _ (.tail _ (.head _))) nF6,hmk DD (.tail _ (.tail _ (.tail _ (.head _)))) nF7,(fun f hf=>by cases hf),fun b o _ _ e=>e,fun b h=>h,fun y v _ h=>h⟩
    have kx : ∀ u',∀ seen' st',Ws prog w K mg mb (hidS s (framesOf outer)) env m ad ⟨LS,LI,SE,DD⟩ outer s.heap u.heap seen' st' st' st' st' u'→Kx env ["node"] ((⟨LS,LI,SE,DD⟩ : Ad4).ms outer) u u':=fun u' seen' st' W'=>by
      refine e2a2 G₁.keep fun ha ta ea _=>?_
      refine e2a2 W'.F.keep fun hb tb eb _=>?_
      refine ⟨u'.heap,u'.toks,by rw [ea,eb],W'.K,fun y v hy hv=>W'.V y v (by simpa using hy) hv⟩
    refine e1a2 W.H.se fun c hSE hc=>?_
    refine zhD ?_
    clear zhD zD
    refine wpAny_execs_cons (wpAny_If (wpAny_isTrue_Compare1 (wpAny_Name (hvn.load (wpAny_Name (W.sen.load (wpAny_inSet_of (k:=(k : Int)) (intKind_is prog w k tn) rfl hSE (wpAny_truthy_bool ?_))) (by decide))) (by decide)) (by with_unfolding_all rfl)))
    have W2:=W.keeps (Keeps.tok (s:=u) (u.toks + 1))
    have hv2:=hvn.ext (Keeps.ext (Keeps.tok (s:=u) (u.toks + 1)))
    generalize ({ u with toks:=u.toks + 1 } : Shared) = u2 at W2 hv2 ⊢
    have hmem : decide ((k : Int) ∈ seen.map fun j : Nat=>(j : Int)) = decide (k ∈ seen):=by
      rw [decide_eq_decide,List.mem_map]
      exact ⟨fun ⟨j, hj, e⟩ => by have : j = k:=by lia
                                  exact this ▸ hj,fun h=>⟨k,h,rfl⟩⟩
    rw [hmem]
    have b6 : ∀ seen' : List Nat,(∀ j ∈ seen,j ∈ seen')→k ∈ seen'→∀ j,j < k + 1→j ∈ seen':=fun seen' h1 h2 j hj=>by
      by_cases q : j = k
      · exact q ▸ h2
      · exact h1 j (b5 j (by lia))
    by_cases hs : k ∈ seen
    · rw [decide_eq_true hs,if_pos rfl]
      refine wpAny_execs_cons (wpAny_Continue (hQL _ _ ⟨W2.F,⟨⟨⟨W2.n2i,W2.stk⟩,⟨W2.its,W2.sen⟩,W2.nds⟩,W2.S,seen,fin,W2.H,b3,b4,b6 seen (fun _ h=>h) hs⟩,kx _ _ _ W2⟩))
    · rw [decide_eq_false hs,if_neg (by decide)]
      refine wpAny_execs_nil (walk N NY SK hi (by rw [kd]; kernel_rfl) (by rw [kd]; kernel_rfl) (by rw [kd]; kernel_rfl) (by rw [kd]; kernel_rfl) hA1.hd hfr1 R W2 b3 hv2 hin o hsn hW0 b4 (fun s' seen' fin' W' D' h1 h2 h3=>?_) (fun v s' items st' seen' W' hcy hl hne hnf=>?_) (by rfl) (by rfl) (by rfl) (by rfl) (by rfl))
      · exact hQL _ _ ⟨W'.F,⟨⟨⟨W'.n2i,W'.stk⟩,⟨W'.its,W'.sen⟩,W'.nds⟩,W'.S,seen',fin',W'.H,D',h3,b6 seen' h1 h2⟩,kx _ _ _ W'⟩
      · exact hQL _ _ (hQT _ _ (h1 hcy v s' items (hidS_kb W'.F.keep) W'.S hl hne hnf))
  · intro s₈ F₈ zi4 _
    refine e0a3 zi4 fun _ b1 zt41=>?_
    refine e2a4 zt41 fun seen fin b2 b3 b4 b5=>?_
    rw [List.length_map,List.length_range] at b5
    exact wpAny_execs_cons (wpAny_Return_some (wpAny_Constant_none (hQT _ _ (h0 (b3.acyc b5) s₈ (hidS_kb F₈.keep) b1))))
end
end Mine
namespace Mine
open PySem PySem.W PyProof.Rows PySem.Calls
noncomputable def bmV : List Value:=[.type "ValueError",.type "Exception",.type "BaseException",.type "object"]
structure CycK (K : Frag) (mg : Str→Option Value) : Prop where
  bound : mg "CycleError" = some (.ref 179)
  look : ∃ bm ns nm qn bs hd sn sub ab col dd k0 k1 k2 k3 k5,K.lookup 179 = some (excClassObj nm qn 179 ns bs bm hd sn sub ab col dd k0 k1 k2 k3 k5 "ValueError.__new__")∧nsOkIn K ns = true∧nsIn K ns "__init__" = some none∧tailIn K bmV bm = true
theorem CycK.own {K : Frag} {mg : Str→Option Value} {h : Heap} (H : CycK K mg) (X : K.In h) : OwnCls "CycleError" 179 bmV "ValueError.__new__" mg h:=by
  obtain ⟨bm,ns,nm,qn,bs,hd,sn,sub,ab,col,dd,k0,k1,k2,k3,k5,hl,hok,hni,ht⟩:=H.look
  exact ⟨H.bound,bm,ns,nm,qn,bs,hd,sn,sub,ab,col,dd,k0,k1,k2,k3,k5,_,X _ _ hl,.of_isNs (isNs_of_in X hok),nsMap_none_of_in X hok hni,tail_of_in X ht⟩
section
variable {prog : Program} {w : World} {K : Frag} {mg mb : Str→Option Value} {A : Around} {env : Env} {s : Shared} {mt : List Addr} {ρ : List (Str × PyData)} {E : Value→Shared→Prop}
theorem raise_cyc {v : Value} {x0 : Str} {k0 : Nat} {p0 p1 p2 p3 p4 p5 : Pos} {Q : Flow→Shared→Prop} (C : CycK K mg) (S : Sv K mg mb env mt ρ s) (kC : env.kindOf "CycleError" = some .globalImplicit) (hh : A.handled = none) (hv : Var env s.heap "cycle" v)
    (h : ∀ h' e vs,Heap.MadeExcOf s.heap h' e (.ref 179) vs→∀ tk,E (.ref e) { s with heap:=h',toks:=tk }) :
    wpAny (model prog w) A (exec (.Raise (some (.Call (.Name "CycleError" p0) [.JoinedStr [.Constant (.str x0) k0 p1] p2,.Name "cycle" p3] [] p4)) none p5) env) Q E s:=by
  refine hideG fun zD zhD=>?_
  obtain ⟨tl,N,nm,q,bs,hdct,sn,sub,ab,col,dd,k0,k1,k2,k3,k5,mN,hC,hN,hni,T⟩:=(C.own S.gl.k).obj
  refine zhD ?_
  clear zhD zD
  refine wpAny_Raise_call_subT (C:=179) (nm:=nm) (q:=q) (N:=N) (bs:=bs) (bm:=tl) (hdct:=hdct) (sn:=sn) (sub:=sub) (ab:=ab) (col:=col) (dd:=dd) (k0:=k0) (k1:=k1) (k2:=k2) (k3:=k3) (k5:=k5)
    F.excBase_ValueError (mN:=mN) (T.hasType F.excBase_ValueError.hasBase) hh rfl hni (nm_g S kC C.bound ⟨rfl,?_⟩)
  refine evalArgs_plain (spliced_cons (JoinedStr_one (pos:=p2) (wpAny_Constant_str (spliced_cons (wpAny_Name (Var.load (s:={ s with toks:=s.toks + 1 }) hv (spliced_nil ⟨rfl,(by show 2 ≤ sizeLine; rw [sizeLine_eq]; lia),hC,hN,T,fun h' e hm=>h h' e _ hm _⟩)) (by decide))))))
theorem cyc_caught {outer : List Env} {L e t : Addr} {tx : Expr} {b₀ : Stmt} {suite : List Stmt} {pos : Pos} {Q : Flow→Shared→Prop} {base : Heap} (C : CycK K mg) (hfr : A.frames = some (env :: outer)) (hf : env.frame = some L) (hfl : Heap.FlyingW base (env :: outer) e (.ref 179) (.ref t) s.heap)
    (h : ∀ h',base.StaysIn h'→s.heap.UpToSlots h' →
      K.In h'∧∀ E',wpAny (model prog w) (A.mark (some (.ref e))) (eval tx env) (fun c s₁=>c = .ref 179∧s₁ = { s with heap:=h' }) E' { s with heap:=h' })
    (hb : ∀ h',base.StaysIn h'→s.heap.UpToSlots h' →
      ∀ E',wpAny (model prog w) (A.mark (some (.ref e))) (execs (b₀ :: suite) env) Q E' { s with heap:=h' }) :
    wpAny (model prog w) A (noteFrame (.ref e) env) (fun _ s₂=>wpAny (model prog w) A (setFlight (.ref e) none) (fun _ s₃=>wpAny (model prog w) A (handleBy (.ref e) env [.ExceptHandler (some tx) none (b₀ :: suite) pos]) Q E s₃) E s₂) E s:=by
  refine wpAny_looks_onW hfr hf hfl fun h₁ n₁ u₁=>?_
  refine wpAny_landsW (s:={ s with heap:=h₁ }) n₁ fun h₂ f₂ u₂=>?_
  have u02 : s.heap.UpToSlots h₂:=Heap.UpToSlots.trans u₁ u₂
  refine hideG fun zD zhD=>?_
  refine e1a2 f₂.there fun ob hob hobc=>?_
  refine e0a2 (h h₂ f₂.1 u02) fun X hx=>?_
  obtain ⟨tl,N,nm,q,bs,hdct,sn,sub,ab,col,dd,k0,k1,k2,k3,k5,mN,hC,hN,hni,T⟩:=(C.own X).obj
  refine zhD ?_
  clear zhD zD
  refine wpAny_handleBy_cons (codeAny_handlers_test (wpAny_mono (hx _) (fun c s₁ ⟨e1,e2⟩=>?_) fun _ _ x=>x)) (by intro q; cases q)
  subst e1 e2
  refine wpAny_excMatches_sub_self hC hob hobc (T.hasType F.excBase_ValueError.hasBase) (codeAny_handlers_suite ?_)
  refine lands_againW (s:={ s with heap:=h₂ }) f₂ fun h₃ f₃ u₃=>?_
  exact hb h₃ f₃.1 (Heap.UpToSlots.trans u02 u₃) _
end
end Mine
namespace Mine
open PySem PySem.W PyProof.Rows PySem.Calls
abbrev nodeD (np nd : Int) : PyData:=.dict [(.int np,.int nd)]
theorem Rp.node_inv {h : Heap} {mt : List Addr} {v : Value} {np nd : Int} (r : Rp h mt v (nodeD np nd)) : ∃ a dx L t t',v = .ref a∧h.get? a = some (nodeObj L dx (.int np t) (.int nd t'))∧h.get? dx = some emptyD:=by
  cases r with
  | node e e2=>exact ⟨_,_,_,_,_,rfl,of_hideAll _ e,of_hideAll _ e2⟩
theorem NodeAt.rp {I L : Addr} {np nd : Int} {t t' : Tok} {mt : List Addr} {h : Heap} (o : NodeAt I L (.int np t) (.int nd t') mt h) (hI : I ∉ mt) : Rp h mt (.ref I) (nodeD np nd):=by
  obtain ⟨dx,e,e2⟩:=o.at_
  exact .node (hideAll_get _ e hI) e2
section
variable {prog : Program} {w : World} {K : Frag} {mg mb : Str→Option Value} {A : Around} {env : Env} {ρ : List (Str × PyData)} {s : Shared} {mt : List Addr}
theorem pe_node {y name : Str} {p pos : Pos} {np nd d : Int} {i : Nat} (SK : SoK K) (hx : ρ.lookup y = some (nodeD np nd)) (hs : ∃ p,SlotK K name i p) (hd : ∀ L t t',∃ u,(([some (.int nd t'),some (.int np t),some (.ref L)] : List (Option Value))[i]?).join = some (.int d u))
    (he : eval (.Attribute (.Name y p) name pos) env = (do
      let o ← eval (.Name y p) env
      standAt pos.atName
      let r ← holding [o] (getAttr o name true)
      letTemporaryGo (.Name y p) o r
      pure r):=by rfl)
    (hdb : (y == ("__debug__" : Str)) = false:=by decide) : PE prog w K mg mb A env ρ (.Attribute (.Name y p) name pos) (.int d):=fun E s mt S=>by
  refine e1a2 (S.vars y _ hx) fun v hv hr=>?_
  refine e5a3 hr.node_inv fun a dx L t t' zr305 e e2=>?_
  subst zr305
  refine e1a1 (hd L t t') fun u hu=>?_
  refine Attribute_Name_ (wpAny_Name (hv.load (node_get (mt:=[]) SK S.gl.k ⟨dx,e,by rw [show hideAll s.heap [] = s.heap from rfl]; exact e2⟩ hs hu rfl ⟨Keeps.tok _,.int _ _⟩)) hdb) he
theorem srcAt_values {iter : Expr} {kvs : List (Int × Value)} {d : Addr} {ds : List PyData} (hh : A.handled = none) (S : Sv K mg mb env mt ρ s) (hd : (d == sysModules) = false) (hm : s.heap.DictOf (intKind prog w) d kvs) (hn : d ∉ mt)
    (hr : RpA s.heap mt (kvs.map (·.2)) ds)
    (h : ∀ (E : Value→Shared→Prop) (Q : Value→Shared→Prop),(∀ s',Keeps s s'→Q (.ref d) s')→wpAny (model prog w) A (eval iter env) Q E s) {apos pos : Pos} (hb : attributeBase iter "values" env (eval iter env) = eval iter env) (hl : (apos.endLine == pos.line) = true) :
    SrcHere prog w A env (.Call (.Attribute iter "values" apos) [] [] pos) ds mt s:=fun E=>by
  refine wpAny_Call_method hb (by rfl) hl PySem.F.plainAttrs_dict PySem.F.slot_dict_values PySem.F.type_dict_values (h E _ fun s1 k1=>?_)
  have S1:=S.keeps k1
  have hm1 : s1.heap.DictOf (intKind prog w) d kvs:=hm.at fun o e=>Keeps.ext k1 _ o e
  have hr1:=hr.ext (Keeps.ext k1)
  refine ⟨hm1.typeIs,hm1.mapOf.noDict,?_⟩
  refine callWith_builtin rfl (evalArgs_nil3 (call_meetsIn PySem.F.slot_dict_values hm1.typeIs PySem.F.entry_dict_values (PySem.F.args_dict_values_1 _) (meets_dict_values (intKind prog w) d hd) ⟨⟨kvs,hm1⟩,?_⟩))
  have k2 : Keeps s { s1 with heap:=s1.heap.push { cls:=.type "dict_values",data:=.fields #[.ref d] } }:=Keeps.trans' k1 (Keeps.push _)
  have S2:=S.keeps k2
  have hm2 : ({ s1 with heap:=s1.heap.push { cls:=.type "dict_values",data:=.fields #[.ref d] } } : Shared).heap.DictOf (intKind prog w) d kvs:=hm1.at fun o e=>Heap.get?_push_of_some _ e
  have hr2:=hr.ext (Keeps.ext k2)
  have hv : ({ s1 with heap:=s1.heap.push { cls:=.type "dict_values",data:=.fields #[.ref d] } } : Shared).heap.IsValuesView s1.heap.objs.size d:=⟨_,Heap.get?_push_size _ rfl,rfl,rfl⟩
  revert hv
  revert hr2
  revert hm2
  revert S2
  revert k2
  refine genA ({ s1 with heap:=s1.heap.push { cls:=.type "dict_values",data:=.fields #[.ref d] } } : Shared) fun s2 k2 S2 hm2 hr2 hv=>?_
  refine e3a2 (id hm2) fun ob es ep ho r=>?_
  have hat : s2.heap.DictAt (intKind prog w) d kvs ep:=⟨ob,es,ho,r⟩
  have hne : d ≠ s2.heap.objs.size:=Nat.ne_of_lt (Heap.lt_size ho)
  have W:=Walks.dictValues (prog:=prog) (w:=w) (knd:=intKind prog w) hh s2.heap.objs.size d hne kvs ep
  have hz : kvs.length = ds.length:=by have:=hr.length; simpa using this
  rw [hz] at W
  refine wpAny_pyIter_values hv hat ⟨Keeps.trans' k2 (Keeps.push _),s2.heap.objs.size,[s2.heap.objs.size,d],[s2.heap.objs.size],_,_,rfl,W,⟨?_,?_⟩,?_,?_,?_,?_,?_,?_⟩
  · refine ⟨_,Heap.get?_push_size _ rfl,rfl,?_⟩
    rw [← hz]; rfl
  · exact hat.at' fun o e=>Heap.get?_push_of_some _ e
  · intro b hb
    rw [Heap.size_push]
    rcases List.mem_cons.mp hb with rfl | hb
    · exact Nat.lt_succ_self _
    · rcases List.mem_cons.mp hb with rfl | hb
      · exact Nat.lt_succ_of_lt (Heap.lt_size ho)
      · cases hb
  · intro b hb
    rcases List.mem_cons.mp hb with rfl | hb
    · exact none_old k2 (Heap.get?_none_of_le (Nat.le_refl _))
    · cases hb
  · intro i v _ zi297
    refine e1a1 zi297 fun k hk=>?_
    obtain ⟨d',hd',hr'⟩:=hr2.get' (i:=i) (v:=v) (by rw [List.getElem?_map,hk]; rfl)
    refine ⟨d',hd',?_⟩
    have h1 : Rp s2.heap (s2.heap.objs.size :: mt) v d':=hr'.hide fun b hb=>by
      rcases List.mem_cons.mp hb with rfl | hb
      · exact .inr (Heap.get?_none_of_le (Nat.le_refl _))
      · exact .inl hb
    exact h1.ext fun _ _ e=>Heap.get?_push_of_some _ e
  · intro i tg v s' Q E' hst hQ
    refine e1a3 hst.1 fun o ho' hc _=>?_
    exact lot_plain ho' hc (by decide) hQ
  · intro i h hst b hb
    rcases List.mem_cons.mp hb with rfl | hb
    · obtain ⟨o,ho',_⟩:=hst.1; exact ⟨o,ho'⟩
    · cases hb
  · intro b hb
    rcases List.mem_cons.mp hb with rfl | hb
    · exact S2.new
    · rcases List.mem_cons.mp hb with rfl | hb
      · exact hn
      · cases hb
end
end Mine
namespace Mine
open PySem PySem.W PyProof.Rows PySem.Calls
noncomputable def pN : PyData→Bool
  | .dict [(.int a,.int _)]=>a == 0
  | _=>false
noncomputable def fN : PyData→PyData
  | .dict [(.int _,.int b)]=>.int b
  | d=>d
noncomputable def ready0 (np : Nat→Int) (n : Nat) : List Nat:=(List.range n).filter fun k=>np k == 0
theorem ready0_data (np : Nat→Int) (n : Nat) : ((((List.range n).map fun k : Nat=>nodeD (np k) (k : Nat)).filter pN).map fN) = (ready0 np n).map fun k : Nat=>.int (k : Nat):=by
  unfold ready0
  rw [List.filter_map,List.map_map]
  rfl
section
variable {prog : Program} {w : World} {K : Frag} {mg mb : Str→Option Value} {A : Around} {env : Env} {s0 s s' : Shared} {mt : List Addr} {E : Value→Shared→Prop}
  {ad : SoAd} {outer : List Env} {hE : Heap} {x : SoTk} {n : Nat} {np : Nat→Int} {sn : Nat→List Nat} {rv : Value} {po fi : Int}
theorem SoB.hidFr {fr : List Addr} {h : Heap} (o : SoB prog w ad x n np sn rv po fi mt h) (hf : ∀ b ∈ fr,b ∈ mt) (hm : ∀ b ∈ ad.mutB n,b ∉ fr) : SoB prog w ad x n np sn rv po fi mt (hideAll h fr) :=
  o.by (fun b hb ob e=>hideAll_get _ e (hm b hb)) (fun b ob hb e=>hideAll_get _ e fun q=>hb (hf b q)) fun b hb=>.inl hb
theorem Fm.frs (F : Fm K mg mb s0 env mt [] s) (R : Around4 s0 env outer hE) (k : Kb (framesOf (env :: outer)) s s') (f : FrS (framesOf (env :: outer)) s.heap s'.heap) : Fm K mg mb s0 env mt [] s'∧∀ y v,Var env s.heap y v→Var env s'.heap y v:=by
  rw [framesOf_cons R.fr] at k f
  refine e2a2 k fun h' tk zr394 kb=>?_
  subst zr394
  have kn : ∀ m,s.heap.Ns env.locals m→h'.Ns env.locals m:=fun m hm=>by
    refine e3a3 hm fun o es ep ho hd r=>?_
    refine e1a1 (f env.locals (.head _) o ho) fun sl e=>?_
    exact ⟨_,es,ep,e,hd,r⟩
  have nf : ∀ b,b ≠ env.locals→b ∉ framesOf outer→b ∉ env.locals :: framesOf outer:=fun b h1 h2 q=>by
    rcases List.mem_cons.mp q with q | q
    · exact h1 q
    · exact h2 q
  have kc : ∀ y b o,env.cells.lookup y = some b→s.heap.get? b = some o→h'.get? b = some o:=fun y b o e ho=>kb b o (nf b (F.cels y b e).2 fun q=>R.nl b q (.inr ⟨y,e⟩)) ho
  refine ⟨F.anew (fun y d e=>nomatch e) (fun b ⟨o,e⟩=>?_) kn kc fun b o e=>kb b o (nf b (fun q=>by rw [q,(F.locs _ (.inl rfl)).2] at e; cases e) (fun q=>by rw [R.n0 b q] at e; cases e)) (Keeps.ext F.keep b o e),fun y v V=>V.anew kn kc⟩
  by_cases q : b ∈ env.locals :: framesOf outer
  · obtain ⟨sl,e'⟩:=f b q o e; exact ⟨_,e'⟩
  · exact ⟨o,kb b o q e⟩
structure Prepd (prog : Program) (w : World) (ad : SoAd) (x : SoTk) (n : Nat) (np : Nat→Int) (sn : Nat→List Nat) (po fi : Int) (mt fr : List Addr) (s s' : Shared) (R : Addr) : Prop where
  kb : Kb (ad.D :: fr) s s'
  fs : FrS fr s.heap s'.heap
  so : SoB prog w { ad with R:=R } x n np sn (.ref R) po fi mt s'.heap
  rl : Rl R (ready0 np n) s'.heap
  nw : s.heap.get? R = none
end
end Mine
namespace Mine
open PySem PySem.W PyProof.Rows PySem.Calls
section
variable {prog : Program} {w : World} {K : Frag} {mg mb : Str→Option Value} {A : Around} {env : Env} {ρ : List (Str × PyData)}
theorem comp_new {E : Value→Shared→Prop} {s : Shared} {mt : List Addr} (S : Sv K mg mb env mt ρ s) {elt target iter : Expr} {ifs : List Expr} {scope : Scope} {pos : Pos} (cl : List (Str × Addr)) {ds : List PyData} (bd : PyData→List (Str × PyData)) (ρf : List (Str × PyData))
    (p : PyData→Bool) (f : PyData→PyData) {Q : Value→Shared→Prop}
    (hsrc : SrcHere prog w A env iter ds mt s)
    (hclos : closureFor scope env = pure cl) (hcell : ∀ y ∈ scope.names,y.2 ≠ .cell) (hkind : scope.kind = .function) (hnames : ∀ y ∈ scope.names,y.2 = .local→scope.names.lookup y.1 = some .local)
    (hfree : FreeOk env scope cl ρ ρf)
    (htgt : ∀ C d,d ∈ ds→Tgt prog w A (compEnvC scope cl C env) target d (bd d))
    (htest : ∀ C d,d ∈ ds→PTs prog w K mg mb A (compEnvC scope cl C env) (bd d ++ ρf) ifs (p d))
    (helt : ∀ C d,d ∈ ds→p d = true→PE prog w K mg mb A (compEnvC scope cl C env) (bd d ++ ρf) elt (f d))
    (hz : ds.length ≤ sizeLine) (hq : ∀ D vs s',Keeps s s'→s.heap.get? D = none→s'.heap.PlainList D vs.toArray→RpA s'.heap mt vs ((ds.filter p).map f)→Q (.ref D) s') (hs : ∀ x,foldedSetIterable iter env x = pure x:=by intro _; rfl) :
    wpAny (model prog w) A (eval (.ListComp elt [⟨target,iter,ifs,0⟩] scope pos) env) Q E s:=by
  refine wpAny_mono (Q:=fun v s'=>∃ D vs,v = .ref D∧Keeps s s'∧s.heap.get? D = none∧s'.heap.PlainList D vs.toArray∧RpA s'.heap mt vs ((ds.filter p).map f)) ?_ (fun v s' ⟨D,vs,e,a,b,c,d⟩=>by subst e; exact hq D vs s' a b c d) fun _ _ e=>e
  rw [eval_ListComp]
  refine wpAny_comprehension_free (use:=none) rfl hs hclos hkind hnames (wpAny_mono (hsrc E) (fun xv s₁ h₁=>wpAny_mono h₁ (fun it s₂ ⟨k0,src⟩=>?_) fun _ _ e=>e) fun _ _ e=>e)
  refine comp_core (RR:=fun acc C=>compPost (model prog w) A E none (fun v s'=>∃ D vs,v = .ref D∧Keeps s s'∧s.heap.get? D = none∧s'.heap.PlainList D vs.toArray∧RpA s'.heap mt vs ((ds.filter p).map f)) acc C) p f S k0 src hcell hkind hfree htgt htest helt hz ?_
  intro D C h' tk m' ys hD hC hDC hn hl hr hk
  refine ⟨m',hn,fun h'' hs''=>⟨D,ys,rfl,?_,none_old k0 hD,hl.extBut hs''.extBut hDC,?_⟩⟩
  · have k1 : ∀ b o,s.heap.get? b = some o→h''.get? b = some o:=fun b o e=>hs''.extBut b o (not_old k0 hC e) (hk b o e)
    refine e2a2 k0 fun h₂ tk₂ zr109 _=>?_
    subst zr109
    exact ⟨h'',tk,rfl,k1⟩
  · have hr' : RpA h'' (C :: D :: mt) ys ((ds.filter p).map f):=rpA_but hr (.head _) hs''.extBut
    exact hr'.hide fun b hb=>.inl (.tail _ (.tail _ hb))
end
section
variable {prog : Program} {w : World} {K : Frag} {mg mb : Str→Option Value} {A : Around} {s : Shared} {mt : List Addr} {E : Value→Shared→Prop}
  {ad : SoAd} {outer : List Env} {x : SoTk} {n : Nat} {np : Nat→Int} {sn : Nat→List Nat} {po fi : Int}
theorem FrS.of' {fr : List Addr} {hE h h' : Heap} (o : FrS fr hE h) (k : ∀ b ob,b ∈ fr→h.get? b = some ob→∃ sl,h'.get? b = some { ob with slots:=sl }) : FrS fr hE h':=fun b hb ob e=>by
  obtain ⟨sl,e1⟩:=o b hb ob e
  obtain ⟨sl',e2⟩:=k b _ hb e1
  exact ⟨sl',e2⟩
theorem SoB.setR {rv : Value} {h : Heap} (o : SoB prog w ad x n np sn rv po fi mt h) (R : Addr) : SoB prog w { ad with R:=R } x n np sn rv po fi mt h:=⟨o.s,o.d,o.N,o.nd,o.li,o.lo⟩
theorem nodes_rpA {rv : Value} {h : Heap} (o : SoB prog w ad x n np sn rv po fi mt h) (hI : ∀ k,k < n→ad.I k ∉ mt) : RpA h mt ((nodePairs ad.I n).map (·.2)) ((List.range n).map fun k : Nat=>nodeD (np k) (k : Nat)):=by
  have e : (nodePairs ad.I n).map (·.2) = (List.range n).map fun k=>Value.ref (ad.I k):=by unfold nodePairs; rw [List.map_map]; rfl
  rw [e]
  have : ∀ l : List Nat,(∀ k ∈ l,k < n)→RpA h mt (l.map fun k=>Value.ref (ad.I k)) (l.map fun k : Nat=>nodeD (np k) (k : Nat)):=fun l=>by
    induction l with
    | nil=>exact fun _=>.nil
    | cons k l ih =>
      intro hl
      obtain ⟨t,t',nd⟩:=o.nd k (hl k (.head _))
      exact .cons (nd.rp (hI k (hl k (.head _)))) (ih fun j hj=>hl j (.tail _ hj))
  exact this _ fun k hk=>List.mem_range.mp hk
theorem sh_cyc {rv po fi : Value} {N : Addr} : getL "_find_cycle" (soEs x N rv po fi) = some none:=by kernel_rfl
theorem Prepd.keeps {fr : List Addr} {s s' s'' : Shared} {R : Addr} (P : Prepd prog w ad x n np sn po fi mt fr s s' R) (k : Keeps s' s'') : Prepd prog w ad x n np sn po fi mt fr s s'' R :=
  ⟨Kb.trans P.kb (Kb.of k),P.fs.of' fun b ob _ e=>⟨ob.slots,Keeps.ext k b ob e⟩,P.so.ext (Keeps.ext k),P.rl.at' (Keeps.ext k _),P.nw⟩
theorem Prepd.drift {fr : List Addr} {s s' : Shared} {R pf : Addr} {h' : Heap} {tk : Nat} (P : Prepd prog w ad x n np sn po fi mt fr s s' R) (o : SoB prog w { ad with R:=R } x n np sn (.ref R) po fi (pf :: mt) s'.heap) (hRp : R ∉ pf :: fr) (hpf : s.heap.get? pf = none) (st : (hideAll s'.heap (pf :: fr)).StaysIn h') (up : s'.heap.UpToSlots h')
    (hB : ∀ b ∈ fr,∃ o,s.heap.get? b = some o∧∀ vs,o.data ≠ .fields vs) (hfm : ∀ b ∈ fr,b ∈ mt) (hmf : ∀ b ∈ ad.mutB n,b ∉ fr∧∃ o,s.heap.get? b = some o) : Prepd prog w ad x n np sn po fi mt fr s { s' with heap:=h',toks:=tk } R:=by
  have kk : ∀ b ob,b ∉ pf :: fr→s'.heap.get? b = some ob→h'.get? b = some ob:=fun b ob hb e=>st b ob (hideAll_get _ e hb)
  refine ⟨?_,P.fs.of' fun b ob hb e=>?_,o.by (fun b hb ob e=>kk b ob (fun q=>?_) e) (fun b ob hb e=>kk b ob (fun q=>?_) e) fun b hb=>.inl (.tail _ hb),P.rl.at' fun ob e=>kk _ ob hRp e,P.nw⟩
  · refine e2a2 (id P.kb) fun h₁ t₁ e₁ q₁=>?_
    refine ⟨h',tk,by rw [e₁],fun b ob hb e=>kk b ob (fun q=>?_) (P.kb.ext b ob hb e)⟩
    rcases List.mem_cons.mp q with q | q
    · rw [q,hpf] at e; cases e
    · exact hb (.tail _ q)
  · refine e1a2 (hB b hb) fun o0 e0 hd=>?_
    refine e1a1 (P.fs b hb o0 e0) fun sl e1=>?_
    rw [e] at e1; cases e1
    exact up b _ e hd
  · refine e0a2 (hmf b hb) fun h1 zt110=>?_
    refine e1a1 zt110 fun o0 e0=>?_
    rcases List.mem_cons.mp q with q | q
    · rw [q,hpf] at e0; cases e0
    · exact h1 q
  · rcases List.mem_cons.mp q with q | q
    · exact hb (q ▸ .head _)
    · exact hb (.tail _ (hfm b q))
set_option maxHeartbeats 8000000 in
theorem prepare_call {doc : Value} {Q : Value→Shared→Prop} (N : Nm mg mb) (NY : NmY mg mb) (SK : SoK K) (SM : SoM K) (C : CycK K mg) (H : FnAt K 216 (fdPrep doc)) (hA : Aok 2 A) (G : Gl K mg mb (hideAll s.heap (ad.D :: framesOf outer))) (o : SoB prog w ad x n np sn .none po fi mt s.heap)
    (hI : ∀ k,k < n→ad.I k ∉ mt) (hmm : ∀ b ∈ ad.D :: framesOf outer,b ∈ mt) (hex : ∀ a ∈ mt,∃ o,s.heap.get? a = some o) (hDf : ad.D ∉ framesOf outer) (hfr : A.frames = some outer) (B : Below s.heap outer) (hsn : ∀ k,∀ u ∈ sn k,u < n) (hn : n ≤ 1000) (hW0 : wSeen sn [] (List.range n) ≤ 3000)
    (h0 : Acyc sn n→∀ s' R,Prepd prog w ad x n np sn po fi mt (framesOf outer) s s' R→Q .none s')
    (h1 : Cyc sn n→∀ s₅ R pf e t h₆,Prepd prog w ad x n np sn po fi mt (framesOf outer) s s₅ R→SoB prog w { ad with R:=R } x n np sn (.ref R) po fi (pf :: mt) s₅.heap→R ∉ pf :: framesOf outer→s.heap.get? pf = none→Heap.FlyingW (hideAll s₅.heap (pf :: framesOf outer)) outer e (.ref 179) (.ref t) h₆→s₅.heap.UpToSlots h₆→∀ tk,E (.ref e) { s₅ with heap:=h₆,toks:=tk }) :
    wpAny (model prog w) A (call (.ref 216) [.ref ad.S]) Q E s:=by
  refine self_enter (hid:=ad.D :: framesOf outer) (mt:=mt) (body:=bodyOf (methAt 11 4)) H (by have:=hA.dp; omega) rfl G hmm hex (by kernel_rfl) (show ∀ x ∈ (["self"] : List Str),(scopeOf (methAt 11 4)).names.lookup x = some .local ∨ (scopeOf (methAt 11 4)).names.lookup x = some .cell from by decide +kernel) (fun L=>by kernel_rfl) fun s₂ env k2 he F V locN newm=>?_
  have hA1:=hA.deeper env
  have kd : ∀ y,env.kindOf y = (scopeOf (methAt 11 4)).names.lookup y:=fun y=>by rw [he]; rfl
  have hi : interactive env = false:=by rw [he]; kernel_rfl
  have hfr1 : (A.deeper env).frames = some (env :: outer):=by show A.frames.map _ = _; rw [hfr]; rfl
  have hfe : env.frame = some env.locals:=by rw [he]; rfl
  have hcl : closureFor (scopeOf (methAt 11 4)) env = closureFor (scopeOf (methAt 11 4)) env:=rfl
  revert hfr1
  revert hA1
  refine genE (A.deeper env) fun A' hA' hA1 hfr1=>?_
  have hm : ∀ b,Loc env b→b ∈ mtOf env ++ mt:=fun b hb=>(F.locs b hb).1
  have exF : ∀ b ∈ framesOf outer,∃ ob,s.heap.get? b = some ob:=fun b hb=>let ⟨ob,e,_⟩:=B.mem b hb; ⟨ob,e⟩
  have R : Around4 (hidS s (ad.D :: framesOf outer)) env outer s.heap:=⟨hfe,(fun b hb hl=>by
    refine e1a1 (exF b hb) fun ob e=>?_
    rw [locN b hl] at e; cases e),fun b hb=>hidS_none (.tail _ hb),B⟩
  have DL : ¬ Loc env ad.D:=fun hl=>by
    refine e2a1 o.d fun t t' e=>?_
    rw [locN _ hl] at e; cases e
  have hDm : ad.D ∈ mtOf env ++ mt:=List.mem_append.mpr (.inr (hmm _ (.head _)))
  have IL : ∀ k,k < n→¬ Loc env (ad.I k):=fun k hk hl=>by
    obtain ⟨t,t',dx,e,_⟩:=o.nd k hk
    rw [locN _ hl] at e; cases e
  have mLB : ∀ b ∈ ad.mutB n,¬ Loc env b:=fun b hb=>by
    rcases List.mem_cons.mp hb with rfl | hb
    · exact DL
    · refine e1a2 (List.mem_map.mp hb) fun k hk zr112=>?_
      subst zr112
      exact IL k (List.mem_range.mp hk)
  have o2:=(o.hide newm).ext (Keeps.ext k2)
  have hI2 : ∀ k,k < n→ad.I k ∉ mtOf env ++ mt:=fun k hk q=>by
    rcases newm _ q with z | z
    · exact hI k hk z
    · obtain ⟨t,t',dx,e,_⟩:=o.nd k hk
      rw [z] at e; cases e
  refine ex_docK F hi fun s₃ F₃ k3=>?_
  have V3:=V.ext (Keeps.ext k3)
  have o3:=o2.ext (Keeps.ext k3)
  refine e2a1 o3.sos fun tp tf os3=>?_
  refine ex_ifR F₃ (b:=false) (wpAny_isTrue_Compare1 (so_attr SK F₃.sv.gl.k V3 os3 SK.n2 get_ready rfl (wpAny_Constant_none (isnot_none_gen (wpAny_truthy_bool ⟨rfl,Keeps.tok _⟩)))) (by with_unfolding_all rfl)) (fun e=>nomatch e) fun _ s₄ F₄ k4=>wpAny_execs_nil ?_
  have V4:=V3.ext (Keeps.ext k4)
  have o4:=o3.ext (Keeps.ext k4)
  have k04 : Keeps s s₄:=Keeps.trans' k2 (Keeps.trans' k3 k4)
  refine e2a1 o4.sos fun tp4 tf4 os4=>?_
  have hNm : ad.N ∉ mtOf env ++ mt:=fun q=>by
    refine e3a2 (id o4.N) fun ob es ep ho _=>?_
    exact (hid_not ho).1 q
  refine wpAny_execs_cons (plainObj_wpAny_Assign_Attribute (comp_new F₄.sv [] (fun d=>[("i",d)]) [] pN fN (srcAt_values hA1.hd F₄.sv o4.lo o4.dict hNm (nodes_rpA o4 hI2) (fun E Q hq=>so_attr SK F₄.sv.gl.k V4 os4 SK.n1 get_n2i rfl (hq _ (Keeps.tok _))) rfl (by rfl))
    (by kernel_rfl) (by decide +kernel) rfl (by decide +kernel) trivial ?_ ?_ ?_ ?_ fun Rd vs s₅ k5 hRn hRl hRr=>?_) (by kernel_rfl))
  · intro c d _
    exact tgt_name (by kernel_rfl) rfl
  · intro c d hd
    refine e1a2 (List.mem_map.mp hd) fun k hk zr114=>?_
    subst zr114
    exact pt_eq _ (pe_node SK rfl SK.s1 fun L t t'=>⟨_,rfl⟩) (pe_int 0 _ _)
  · intro c d hd _
    refine e1a2 (List.mem_map.mp hd) fun k hk zr115=>?_
    subst zr115
    exact pe_node SK rfl SK.s2 fun L t t'=>⟨_,rfl⟩
  · rw [List.length_map,List.length_range,sizeLine_eq]; omega
  · have F₅:=F₄.keeps k5
    have V5:=V4.ext (Keeps.ext k5)
    have o5:=o4.ext (Keeps.ext k5)
    refine e2a1 o5.sos fun tp5 tf5 os5=>?_
    rw [ready0_data] at hRr
    have r5 : Rl Rd (ready0 np n) s₅.heap:=⟨vs,hRl,RpA.ints (by rw [List.map_map]; exact hRr)⟩
    have hRs : s.heap.get? Rd = none:=none_old k04 hRn
    have hRl' : Rd ∉ env.locals :: framesOf outer:=fun q=>by
      rcases List.mem_cons.mp q with q | q
      · refine e1a1 (F₄.mex env.locals (hm _ (.inl rfl))) fun ob e=>?_
        rw [← q,hRn] at e; cases e
      · refine e1a1 (exF _ q) fun ob e=>?_
        rw [hRs] at e; cases e
    refine wpAny_Name (V5.load ?_) (by decide)
    refine so_set SK F₅.sv.gl.k os5 SK.n2 any_ready (fun _ _=>put_ready _ _ _) fun h6 tk6 e6 hs6=>?_
    have kb6 : ∀ b ob,b ≠ ad.D→s₅.heap.get? b = some ob→h6.get? b = some ob:=hs6.extBut
    have F₆:=F₅.hidTurn (tk:=tk6) hDm DL (hidS_none (.head _)) kb6 ⟨_,e6⟩
    have V6:=V5.but (tk:=tk6) DL kb6
    have r6 : Rl Rd (ready0 np n) h6:=r5.at' fun ob e=>kb6 _ ob (o5.RD r5) e
    have S6 : FrS (framesOf outer) s.heap h6:=fun b hb ob e=>⟨ob.slots,kb6 b ob (fun q=>hDf (q ▸ hb)) (Keeps.ext k5 b ob (Keeps.ext k04 b ob e))⟩
    have o6:=o5.setD hDm hs6 e6
    generalize hs6' : ({ s₅ with heap:=h6,toks:=tk6 } : Shared) = s₆ at F₆
    have hh6 : s₆.heap = h6:=by rw [← hs6']
    rw [← hh6] at V6 r6 S6 o6
    clear os5 o5 r5 V5 F₅ hs6 kb6 e6 hRr hRl hh6
    have hfc : framesOf (env :: outer) = env.locals :: framesOf outer:=framesOf_cons hfe
    have hfm : ∀ b ∈ framesOf (env :: outer),b ∈ mtOf env ++ mt:=fun b hb=>by
      rw [hfc] at hb
      rcases List.mem_cons.mp hb with rfl | hb
      · exact hm _ (.inl rfl)
      · exact List.mem_append.mpr (.inr (hmm b (.tail _ hb)))
    have hmf : ∀ b ∈ ad.mutB n,b ∉ framesOf (env :: outer):=fun b hb q=>by
      rw [hfc] at q
      rcases List.mem_cons.mp q with q | q
      · exact mLB b hb (.inl q)
      · rcases List.mem_cons.mp hb with e | hb'
        · exact hDf (e ▸ q)
        · refine e1a2 (List.mem_map.mp hb') fun k hk e=>?_
          exact hI k (List.mem_range.mp hk) (e ▸ hmm b (.tail _ q))
    have G6 : Gl K mg mb (hideAll s₆.heap (framesOf (env :: outer))):=F₆.gl0.ext fun b ob e=>hideAll_get _ (Keeps.ext F₆.keep b ob e) fun q=>by
      rw [hfc] at q
      rcases List.mem_cons.mp q with q | q
      · rw [q,(F₆.locs _ (.inl rfl)).2] at e; cases e
      · rw [R.n0 b q] at e; cases e
    have B6 : Below s₆.heap (env :: outer):=⟨by rw [F₆.knd]; decide,by
      refine e4a3 F₆.lns fun m ob es ep eL hdL _=>?_
      exact ⟨env.locals,ob,hfe,eL,fun vs q=>by rw [hdL] at q; cases q⟩,S6.below B⟩
    refine e2a1 o6.sos fun tp6 tf6 os6=>?_
    have fin : ∀ v s₇,Kb (framesOf (env :: outer)) s₆ s₇→FrS (framesOf (env :: outer)) s₆.heap s₇.heap →
        (∀ s₈,Fm K mg mb (hidS s (ad.D :: framesOf outer)) env (mtOf env ++ mt) [] s₈→Var env s₈.heap "cycle" v→Prepd prog w ad x n np sn po fi mt (framesOf outer) s s₈ Rd→SoB prog w { ad with R:=Rd } x n np sn (.ref Rd) po fi (env.locals :: mt) s₈.heap→Kl env ["cycle"] s₇ s₈ →
          wpAny (model prog w) A' (execs [(bodyOf (methAt 11 4)).getD 4 (.Pass default)] env) (fun fl s'=>Q (match fl with | .ret v=>v | _=>.none) s') (fun e s'=>wpAny (model prog w) A' (leaving env e) (fun _ s''=>E e s'') (fun e' s''=>E e' s'') s') s₈) →
        wpAny (model prog w) A' (storeName env "cycle" v) (fun _ s'=>wpAny (model prog w) A' (execs [(bodyOf (methAt 11 4)).getD 4 (.Pass default)] env) (fun fl s'=>Q (match fl with | .ret v=>v | _=>.none) s') (fun e s'=>wpAny (model prog w) A' (leaving env e) (fun _ s''=>E e s'') (fun e' s''=>E e' s'') s') s')
          (fun e s'=>wpAny (model prog w) A' (leaving env e) (fun _ s''=>E e s'') (fun e' s''=>E e' s'') s') s₇:=by
      intro v s₇ k7 f7 hnext
      refine e0a2 (F₆.frs R k7 f7) fun F₇ hV=>?_
      have o7:=o6.kb k7 hfm hmf
      have r7 : Rl Rd (ready0 np n) s₇.heap:=r6.at' fun ob e=>k7.ext _ ob (by rw [hfc]; exact hRl') e
      have S7 : FrS (framesOf outer) s.heap s₇.heap:=S6.of fun b ob hb e=>f7 b (by rw [hfc]; exact .tail _ hb) ob e
      refine F₇.storeV (.inl (by rw [kd]; kernel_rfl)) [] trivial rfl fun s₈ F₈ v8 k8=>hnext s₈ F₈ v8 ⟨hidS_kb F₈.keep,S7.ext fun b ob hb e=>k8.ext b ob (R.nl b hb) e,?_,?_,hRs⟩ (((o7.kl k8 hm mLB).hide fun b hb=>.inl (by
        rcases List.mem_cons.mp hb with rfl | hb
        · exact hm _ (.inl rfl)
        · exact List.mem_append.mpr (.inr hb))).setR Rd) k8
      · exact ((o7.kl k8 hm mLB).hide fun b hb=>.inl (List.mem_append.mpr (.inr hb))).setR Rd
      · exact r7.at' fun ob e=>k8.ext _ ob (fun hl=>hRl' (by
          rcases hl with q | ⟨y,q⟩
          · exact q ▸ .head _
          · exfalso
            rw [he] at q
            have : (callEnvC (fdPrep doc) s.heap.objs.size 216).cells = []:=by kernel_rfl
            rw [this] at q; cases q)) e
    refine wpAny_execs_cons (wpAny_Assign_Name (so_call SK F₆.sv.gl.k V6 os6 SM.cyc.1 SM.cyc.2.1 rfl rfl sh_cyc (evalArgs_nil3 ⟨rfl,F₆.sv.gl.k,?_⟩) (by rfl)) (by rfl))
    refine cyc_call (mt:=mtOf env ++ mt) (outer:=env :: outer) N NY SK SM.cyc.2 hA1 G6 (o6.hidFr hfm hmf) hfm F₆.mex hfr1 B6 hsn hW0 (fun hac s₇ k7 f7=>?_) (fun hcy u s₇ items k7 f7 hl hne hnu=>?_)
    · refine fin .none s₇ k7 f7 fun s₈ F₈ v8 P8 _ _=>wpAny_execs_cons (wpAny_If (wpAny_isTrue_value (wpAny_Name (v8.load (truthy_none ?_)) (by decide))))
      rw [if_neg (by decide)]
      exact wpAny_execs_nil (wpAny_execs_nil (h0 hac s₈ Rd P8))
    · refine fin (.ref u) s₇ k7 f7 fun s₈ F₈ v8 P8 B8 k8=>?_
      have hl8 : s₈.heap.PlainList u items:=hl.at fun ob e=>k8.ext u ob (fun q=>hnu (by
        rw [hfc]
        rcases q with q | ⟨y,q⟩
        · exact q ▸ .head _
        · exfalso
          rw [he] at q
          have : (callEnvC (fdPrep doc) s.heap.objs.size 216).cells = []:=by kernel_rfl
          rw [this] at q; cases q)) e
      refine wpAny_execs_cons (wpAny_If (wpAny_isTrue_value (wpAny_Name (v8.load (wpAny_truthy_list (let ⟨k,e⟩:=hl8; ⟨_,e,rfl,k,rfl⟩) (by omega) ?_)) (by decide))))
      have hne' : (!items.isEmpty) = true:=by
        have:=hne.1
        simp [Array.isEmpty]
        exact fun q=>this (by rw [q]; rfl)
      rw [if_pos hne']
      have k9 : Keeps s₈ { s₈ with toks:=s₈.toks + 1 + 1 }:=Keeps.tok _
      have F₉:=F₈.keeps k9
      have v9:=v8.ext (Keeps.ext k9)
      have P9:=P8.keeps k9
      have o9:=B8.ext (Keeps.ext k9)
      generalize ({ s₈ with toks:=s₈.toks + 1 + 1 } : Shared) = s₉ at F₉ v9 P9 o9
      refine wpAny_execs_cons (raise_cyc C F₉.sv (by rw [kd]; kernel_rfl) hA1.hd v9 fun h' e vs hmx tk=>?_)
      have B9 : Below s₉.heap (env :: outer):=⟨by rw [F₉.knd]; decide,by
        refine e4a3 F₉.lns fun m ob es ep eL hdL _=>?_
        exact ⟨env.locals,ob,hfe,eL,fun vs q=>by rw [hdL] at q; cases q⟩,P9.fs.below B⟩
      refine wpAny_leaves_madeW (s:={ s₉ with heap:=h',toks:=tk }) (base:=hideAll s₉.heap (env.locals :: framesOf outer)) hfr1 hfe (fun b ob q=>of_hideAll _ q) (B9.fun fun b hb=>hideAll_none _ (hfc ▸ hb)) hmx fun h'' t f1 _ _ u1=>?_
      exact h1 hcy s₉ Rd env.locals e t h'' P9 o9 hRl' (locN _ (.inl rfl)) f1 (Heap.UpToSlots.trans (Heap.UpToSlots.of_keeps hmx.keeps) u1) tk
end
end Mine
namespace Mine
open PySem PySem.W PyProof.Rows PySem.Calls
structure StarK (K : Frag) (name : Str) (f : Addr) : Prop where
  fa : findIn K (.ref 261) name = some (some (.ref f))
  ty : typeIn K (.ref f) = some (.type "function")
  get : specialIn K (.ref f) "__get__" = some (some (.builtin "function.__get__"))
  tk : takesIn K (.ref f) = some false
theorem findObj_m {K : Frag} {C f : Addr} {name : Str} {cd : ClassData} {od : Obj} {g : Value} (hc' : clsIn K C = some cd) (hd : cd.hasDict = true) (ha : findIn K (.ref C) name = some (some (.ref f))) (hg : specialIn K (.ref f) "__get__" = some (some g)) (ht : takesIn K (.ref f) = some false) (hc : copiedNames.contains name = false) (hl : lookIn name od = some none) :
    findObj K C (some od) name = some (.bind g (.ref f)):=by
  unfold findObj
  have ho : PySem.W.ownOf cd (some od) name = some none:=by unfold PySem.W.ownOf; rw [if_pos hd]; exact hl
  rw [hc',Option.bind_some,ha,Option.bind_some]
  simp only [hg,ht,Option.bind_some,ho,hc,Bool.false_and,Bool.false_eq_true,if_false]
section
variable {prog : Program} {w : World} {K : Frag} {A : Around} {env : Env} {s : Shared} {E : Value→Shared→Prop} {S D N : Addr} {x : SoTk} {rv po fi : Value}
theorem getAttr_meth {name : Str} {f : Addr} {Q : Value→Shared→Prop} (M : StarK K name f) (SK : SoK K) (X : K.In s.heap) (o : SoS S D N x rv po fi s.heap) (hc : copiedNames.contains name = false) (hsh : getL name (soEs x N rv po fi) = some none)
    (h : Q (.ref s.heap.objs.size) { s with heap:=s.heap.push (methodObj (.ref f) (.ref S)),toks:=s.toks + 1 }) : wpAny (model prog w) A (getAttr (.ref S) name true) Q E s:=by
  obtain ⟨cd,hcd,hd⟩:=SK.hd
  exact get_bind X o.inst SK.ga (findObj_m hcd hd M.fa M.get M.tk hc (by rw [lookIn_dict]; exact hsh)) SK.gm (wpAny_call (fn_get (s:={ s with toks:=s.toks + 1 }) X M.ty (handed_on rfl h)))
theorem star_call {nm m : Str} {f : Addr} {fo : Obj} {fd : FuncData} {args : List Expr} {p apos pos : Pos} {Q : Value→Shared→Prop} (M : StarK K m f) (SK : SoK K) (X : K.In s.heap) (hv : Var env s.heap nm (.ref S)) (o : SoS S D N x rv po fi s.heap)
    (hc : copiedNames.contains m = false) (hsh : getL m (soEs x N rv po fi) = some none) (hfo : K.lookup f = some fo) (hfd : fo.data = .func fd)
    (hform : methodCallForm (args.length + ([] : List Keyword).length) (backTo pos (starEach args env)) (backToKw pos (keywordEach [] env)) = false) (hst : (backTo pos (starEach args env)).any (·.1) = true)
    (h : ∀ q s₁,Keeps s s₁→s₁.heap.get? q = some (methodObj (.ref f) (.ref S))→wpAny (model prog w) A (evalArgs (.ref q) true (backTo pos (starEach args env)) []) (fun a s₂=>a.kw = []∧Keeps s₁ s₂∧codeAny (model prog w) A (.call (.ref f) ⟨.ref S :: a.pos,[]⟩) (Rw Q E) s₂) E s₁)
    (hbase : attributeBase (.Name nm p) m env (eval (.Name nm p) env) = eval (.Name nm p) env:=by rfl) (hdb : (nm == ("__debug__" : Str)) = false:=by decide) :
    wpAny (model prog w) A (eval (.Call (.Attribute (.Name nm p) m apos) args [] pos) env) Q E s:=by
  rw [arm_eval_Call,hbase]
  refine wpAny_bind (wpAny_Name (hv.load (wpAny_bind (wpAny_standAt ?_))) hdb)
  unfold methodCall
  rw [hform]
  refine wpAny_bind (wpAny_holding ?_)
  unfold calleeOf
  rw [if_neg (by decide)]
  refine wpAny_bind (getAttr_meth M SK X o hc hsh (wpAny_pure ?_))
  have kp : Keeps s { s with heap:=s.heap.push (methodObj (.ref f) (.ref S)),toks:=s.toks + 1 }:=⟨_,_,rfl,fun b ob e=>Heap.get?_push_of_some _ e⟩
  have hq : ({ s with heap:=s.heap.push (methodObj (.ref f) (.ref S)),toks:=s.toks + 1 } : Shared).heap.get? s.heap.objs.size = some (methodObj (.ref f) (.ref S)):=Heap.get?_push_size _ rfl
  have hpos : methodCallPos false (.Name nm p) env apos pos = pure pos:=by unfold methodCallPos; simp
  refine wpAny_bind (wpAny_of_eq hpos ?_)
  revert hq
  revert kp
  refine genA ({ s with heap:=s.heap.push (methodObj (.ref f) (.ref S)),toks:=s.toks + 1 } : Shared) fun s₁ kp hq=>?_
  unfold callWith
  refine wpAny_bind (wpAny_holding (wpAny_mono (h _ s₁ kp hq) (fun a s₂ ⟨e1,k2,hcode⟩=>wpAny_bind (wpAny_standAt ?_)) fun _ _ e=>e))
  obtain ⟨apos',akw⟩:=a
  dsimp only at e1
  subst e1
  have hq2:=Keeps.ext k2 _ _ hq
  have hf2 : s₂.heap.get? f = some fo:=Keeps.ext k2 _ _ (Keeps.ext kp _ _ (X _ _ hfo))
  simp only [hst,Bool.true_or]
  refine wpAny_bind (m:=keeperOf (.ref s.heap.objs.size)) ?_
  unfold keeperOf
  refine wpAny_bind (wpAny_load hq2 ?_)
  simp only [methodObj,bne_self_eq_false,Bool.false_eq_true,if_false]
  refine wpAny_bind (m:=load f) (wpAny_load hf2 ?_)
  rw [hfd]
  refine wpAny_pure ?_
  refine wpAny_bind (wpAny_operating (wpAny_call (method_call (self:=.ref S) (f:=.ref f) hq2 (codeAny_mono hcode fun r s' hr=>?_))))
  cases r with
  | error e=>exact hr
  | ok fl =>
    cases fl with
    | ret v=>exact wpAny_bind (wpAny_holding (wpAny_point (wpAny_pure hr)))
    | next=>exact hr
    | brk=>exact hr
    | cont=>exact hr
theorem not_iterable_list {l : Addr} {items : Array Value} {Q : Bool→Shared→Prop} (hl : s.heap.IsList l items) (h : Q false s) : wpAny (model prog w) A (notIterableAtAll (.ref l)) Q E s:=by
  unfold notIterableAtAll
  refine wpAny_bind (wpAny_specialOf hl.typeIs slot_list_iter.lookup ?_)
  exact wpAny_pure h
theorem collect_list {l : Addr} {items : Array Value} {n : Nat} {Q : List Value→Shared→Prop} (ho : s.heap.get? l = some { cls:=.type "list",data:=.seq items n }) (hz : items.size ≤ 100000) (h : ∀ s',Keeps s s'→Q items.toList s') : wpAny (model prog w) A (collect (.ref l)) Q E s :=
  wpAny_collect_seq l (.inl rfl) ho rfl rfl (fun h' k=>h _ ⟨h',s.toks,rfl,k⟩) (by rw [sizeLine_eq]; lia)
theorem spliced_star {v : Sem Value} {Q : List Value→Shared→Prop} (h : wpAny (model prog w) A v (fun u s₁=>∃ l items n,u = .ref l∧s₁.heap.get? l = some { cls:=.type "list",data:=.seq items n }∧items.size ≤ 100000∧∀ s',Keeps s₁ s'→Q items.toList s') E s) :
    wpAny (model prog w) A (spliced [(true,v)]) Q E s:=by
  rw [spliced]
  refine wpAny_bind (wpAny_mono h (fun u s₁ ⟨l,items,n,e,ho,hz,hq⟩=>?_) fun _ _ e=>e)
  subst e
  simp only [if_true]
  refine wpAny_bind (not_iterable_list ⟨_,ho,rfl,_,rfl⟩ ?_)
  simp only [Bool.false_eq_true,if_false]
  refine wpAny_bind (collect_list ho hz fun s' k=>?_)
  refine wpAny_bind (wpAny_holding (spliced_nil (wpAny_pure ?_)))
  rw [List.append_nil]
  exact hq s' k
theorem args_star1 {f : Value} {y v : Sem Value} {Q : Args→Shared→Prop} (h : wpAny (model prog w) A y (fun u s₁=>wpAny (model prog w) A (spliced [(true,v)]) (fun us s₂=>Q ⟨u :: us,[]⟩ s₂) E s₁) E s) : wpAny (model prog w) A (evalArgs f true [(false,y),(true,v)] []) Q E s:=by
  unfold evalArgs
  refine wpAny_bind (spliced_cons (wpAny_mono h (fun u s₁ h₁=>wpAny_mono h₁ (fun us s₂ h₂=>?_) fun _ _ e=>e) fun _ _ e=>e))
  refine wpAny_bind (wpAny_pure (wpAny_holding ?_))
  exact wpAny_bind (wpAny_pure (wpAny_bind (wpAny_pure (wpAny_pure h₂))))
theorem args_star0 {f : Value} {v : Sem Value} {Q : Args→Shared→Prop} (h : wpAny (model prog w) A v (fun u s₁=>∃ l items n,u = .ref l∧s₁.heap.get? l = some { cls:=.type "list",data:=.seq items n }∧items.size ≤ 100000∧∀ s',Keeps s₁ s'→Q ⟨items.toList,[]⟩ s') E s) : wpAny (model prog w) A (evalArgs f true [(true,v)] []) Q E s:=by
  unfold evalArgs
  refine wpAny_bind (wpAny_mono h (fun u s₁ ⟨l,items,n,e,ho,hz,hq⟩=>?_) fun _ _ e=>e)
  subst e
  refine wpAny_bind (wpAny_pure (wpAny_holding ?_))
  refine wpAny_bind (wpAny_pure ?_)
  refine wpAny_bind (wpAny_bind (not_iterable_list ⟨_,ho,rfl,_,rfl⟩ ?_))
  simp only [Bool.false_eq_true,if_false]
  exact wpAny_holding (collect_list ho hz fun s' k=>wpAny_pure (hq s' k))
end
end Mine
namespace Mine
open PySem PySem.W PyProof.Rows PySem.Calls
noncomputable def SoAd.IL (ad : SoAd) (n : Nat) : List Addr:=(List.range n).map ad.I ++ (List.range n).map ad.L
theorem SoAd.mem_IL {ad : SoAd} {n : Nat} {b : Addr} : b ∈ ad.IL n ↔ ∃ k,k < n∧(b = ad.I k ∨ b = ad.L k):=by
  unfold SoAd.IL
  rw [List.mem_append,List.mem_map,List.mem_map]
  constructor
  · rintro (⟨k,hk,rfl⟩ | ⟨k,hk,rfl⟩)
    · exact ⟨k,List.mem_range.mp hk,.inl rfl⟩
    · exact ⟨k,List.mem_range.mp hk,.inr rfl⟩
  · rintro ⟨k,hk,rfl | rfl⟩
    · exact .inl ⟨k,List.mem_range.mpr hk,rfl⟩
    · exact .inr ⟨k,List.mem_range.mpr hk,rfl⟩
theorem SoAd.mut_IL {ad : SoAd} {n : Nat} {b : Addr} (h : b ∈ ad.mut n) : b = ad.N ∨ b ∈ ad.IL n:=by
  rcases List.mem_cons.mp h with h | h
  · exact .inl h
  · exact .inr h
section
variable {prog : Program} {w : World} {K : Frag} {mg mb : Str→Option Value} {A : Around} {env : Env} {s s0 : Shared} {E : Value→Shared→Prop} {Q : Flow→Shared→Prop} {ad : SoAd} {x : SoTk} {n : Nat} {np : Nat→Int} {su : Nat→List Int} {mt : List Addr} {ρ : List (Str × PyData)}
theorem Fm.kbT {ws : List Addr} {s' : Shared} (F : Fm K mg mb s0 env mt ρ s) (k : Kb ws s s') (hw : ∀ b ∈ ws,b ∈ mt) (hL : ∀ b ∈ ws,¬ Loc env b) (h0 : ∀ b ∈ ws,s0.heap.get? b = none) (hx : ∀ b ∈ ws,∃ o,s'.heap.get? b = some o) : Fm K mg mb s0 env mt ρ s':=by
  refine e2a2 k fun h' tk zr99 q=>?_
  subst zr99
  refine F.turn (fun _ hb=>hb) (fun _ hb=>.inl hb) (fun b hb=>?_) (fun b ob hb e=>q b ob (fun z=>hL b z (hb (hw b z))) e) fun b ob e=>q b ob (fun z=>by rw [h0 b z] at e; cases e) (Keeps.ext F.keep b ob e)
  by_cases z : b ∈ ws
  · exact hx b z
  · obtain ⟨ob,e⟩:=F.mex b hb; exact ⟨ob,q b ob z e⟩
theorem sh_add {rv po fi : Value} {N : Addr} : getL "add" (soEs x N rv po fi) = some none:=by kernel_rfl
set_option maxHeartbeats 4000000 in
theorem ex_add5 {p0 p1 p2 p3 p4 p5 p6 p7 p8 p9 : Pos} {k0 : Nat} {rest : List Stmt} (N : Nm mg mb) (NS : NmS mg K) (NN : NodeNew prog w K) (SK : SoK K) (SM : SoM K) (hA : Aok 3 A) (hd : A.depth ≤ 700) (hu : A.units ≤ 900) (hi : interactive env = false) (kN : env.kindOf "name" = some .local) (kR : env.kindOf "range" = some .globalImplicit)
    (F : Fm K mg mb s0 env mt ρ s) (hρ : ρ.lookup ("name" : Str) = none) (V : Var env s.heap "sorter" (.ref ad.S)) (o : SoA prog w ad x 0 (fun _=>0) (fun _=>[]) mt s.heap) (hNm : ad.N ∈ mt) (NL : ¬ Loc env ad.N) (N0 : s0.heap.get? ad.N = none)
    (h : ∀ s' ad',ad'.S = ad.S→ad'.D = ad.D→ad'.N = ad.N→Fm K mg mb s0 env mt ρ s'→Var env s'.heap "sorter" (.ref ad.S)→SoA prog w ad' x 5 (fun _=>0) (fun _=>[]) (ad'.IL 5 ++ mt) s'.heap→(∀ k,k < 5→(s0.heap.get? (ad'.I k) = none∧s0.heap.get? (ad'.L k) = none)∧ad'.I k ∉ mt∧ad'.L k ∉ mt)→Kx env ["name"] [ad.N] s s'→wpAny (model prog w) A (execs rest env) Q E s')
    (l1 : (p5.endLine == p7.line) = true:=by rfl) (hsub : Sub ρ ρ) (hsub2 : ∀ d,Sub (("name",d) :: ρ) ρ) :
    wpAny (model prog w) A (execs (.For (.Name "name" p0) (.Call (.Name "range" p1) [.Constant (.int 5) k0 p2] [] p3) [.Expr (.Call (.Attribute (.Name "sorter" p4) "add" p5) [.Name "name" p6] [] p7) p8] [] p9 :: rest) env) Q E s:=by
  have hNL : ∀ b ∈ [ad.N],¬ Loc env b:=fun b hb=>by rcases List.mem_cons.mp hb with rfl | hb; exact NL; cases hb
  refine ex_forX ["name"] [] [ad.N] (fun d=>[("name",d)]) (fun _=>ρ) (fun i m u=>Var env u.heap "sorter" (.ref ad.S)∧∃ ad',(ad'.S = ad.S∧ad'.D = ad.D∧ad'.N = ad.N)∧SoA prog w ad' x i (fun _=>0) (fun _=>[]) (ad'.IL i ++ m) u.heap ∧
      ∀ k,k < i→(s0.heap.get? (ad'.I k) = none∧s0.heap.get? (ad'.L k) = none)∧ad'.I k ∉ m∧ad'.L k ∉ m) F
    ⟨V,ad,⟨rfl,rfl,rfl⟩,o,fun k hk=>absurd hk (Nat.not_lt_zero k)⟩ (fun b hb=>by rcases List.mem_cons.mp hb with rfl | hb; exact hNm; cases hb) hNL (src_rangeI (n:=5) hA.hd kR N.range.1 N.range.2 (pe_int 5 _ _) (by decide)) (fun d _=>tgtF_name (.inl kN)) hsub ?_ ?_ ?_
  · intro i m₁ m₂ u₁ u₂ zi93 mv
    refine e0a2 zi93 fun a1 zt100=>?_
    refine e1a3 zt100 fun ad' zs101 a2 a3=>?_
    refine e0a3 zs101 fun e1 e2 e3=>?_
    have exI : ∀ k,k < i→(∃ ob,u₁.heap.get? (ad'.I k) = some ob)∧∃ ob,u₁.heap.get? (ad'.L k) = some ob:=fun k hk=>⟨let ⟨_,_,dx,e,_⟩:=a2.nd k hk; ⟨_,e⟩,let ⟨_,⟨_,e⟩,_⟩:=a2.li k hk; ⟨_,e⟩⟩
    refine ⟨mv.var _ _ (by decide) a1,ad',⟨e1,e2,e3⟩,a2.move (fun ob e=>mv.keep _ ob (fun _=>by rw [e3]; exact .head _) e) (fun k hk ob e=>mv.keep _ ob (fun q=>absurd q (a3 k hk).2.1) e) (fun k hk ob e=>mv.keep _ ob (fun q=>absurd q (a3 k hk).2.2) e)
      (fun b ob hb e=>mv.keep b ob (fun q=>absurd (List.mem_append.mpr (.inr q)) hb) e) (fun b hb=>?_),fun k hk=>⟨(a3 k hk).1,fun q=>?_,fun q=>?_⟩⟩
    · rcases List.mem_append.mp hb with q | q
      · exact .inl (List.mem_append.mpr (.inl q))
      · rcases mv.hid b q with z | z
        · exact .inl (List.mem_append.mpr (.inr z))
        · exact .inr z
    · rcases mv.hid _ q with z | z
      · exact (a3 k hk).2.1 z
      · obtain ⟨⟨ob,e⟩,_⟩:=exI k hk; rw [z] at e; cases e
    · rcases mv.hid _ q with z | z
      · exact (a3 k hk).2.2 z
      · obtain ⟨_,⟨ob,e⟩⟩:=exI k hk; rw [z] at e; cases e
  · rintro i d m u hdd hmm' G₁ zhX
    refine hideG fun zD zhD=>?_
    refine e0a2 zhX fun a1 zt102=>?_
    refine e1a3 zt102 fun ad' zs103 a2 a3=>?_
    refine e0a3 zs103 fun e1 e2 e3=>?_
    refine zhD ?_
    clear zhD zD
    rw [List.map_map,List.getElem?_map] at hdd
    refine hideG fun zD zhD=>?_
    refine e1a2 (Option.map_eq_some_iff.mp hdd) fun k hk zr104=>?_
    subst zr104
    obtain ⟨hki,rfl⟩ : i < 5∧k = i:=by
      refine e1a1 (List.getElem?_eq_some_iff.mp hk) fun h1 h2=>?_
      rw [List.getElem_range] at h2
      exact ⟨by simpa using h1,h2.symm⟩
    refine e1a2 (G₁.vars "name" _ rfl) fun vn hvn rn=>?_
    refine e1a1 rn.int_inv fun tn zr105=>?_
    subst zr105
    refine e2a1 a2.s fun pp ff os=>?_
    refine zhD ?_
    clear zhD zD
    have hNm' : ad'.N ∈ m:=by rw [e3]; exact hmm' _ hNm
    have exIL : ∀ b ∈ ad'.IL k,∃ ob,u.heap.get? b = some ob:=fun b hb=>by
      obtain ⟨j,hj,rfl | rfl⟩:=SoAd.mem_IL.mp hb
      · obtain ⟨_,_,dx,e,_⟩:=a2.nd j hj; exact ⟨_,e⟩
      · obtain ⟨_,⟨_,e⟩,_⟩:=a2.li j hj; exact ⟨_,e⟩
    have GN : Gl K mg mb (hideAll u.heap [ad'.N]):=G₁.gl0.ext fun b ob e=>hideAll_get _ (Keeps.ext G₁.keep b ob e) fun q=>by
      rcases List.mem_cons.mp q with q | q
      · rw [q,e3,N0] at e; cases e
      · cases q
    have hse : ad.S = ad'.S:=e1.symm
    rw [hse] at a1
    refine hideG fun zD zhD=>?_
    refine e0a2 SM.add fun fAdd zt106=>?_
    refine e1a1 zt106 fun doc hAdd=>?_
    refine zhD ?_
    clear zhD zD
    refine wpAny_execs_cons (wpAny_Expr (so_call SK G₁.sv.gl.k a1 os.hid fAdd hAdd.1 rfl rfl sh_add (args1 (wpAny_Name (hvn.load ⟨rfl,G₁.sv.gl.k,?_⟩) (by decide))) (by rfl) l1) hi rfl)
    refine add_new (mt:=ad'.IL k ++ m) N NS NN SK SM hAdd (hA.le (by decide)) hd hu GN a2 (fun b hb=>?_) (fun b hb=>?_) (by lia) fun s' I L kN iN lN exI exL o'=>wpAny_execs_nil ?_
    · rcases SoAd.mut_IL hb with rfl | hb
      · exact List.mem_append.mpr (.inr hNm')
      · exact List.mem_append.mpr (.inl hb)
    · rcases List.mem_append.mp hb with hb | hb
      · exact exIL b hb
      · exact G₁.mex b hb
    have eI : (ad'.put k I L).I k = I:=updF_at _ _ _
    have eL : (ad'.put k I L).L k = L:=updF_at _ _ _
    have eIj : ∀ j,j ≠ k→(ad'.put k I L).I j = ad'.I j:=fun j hj=>updF_ne _ _ hj
    have eLj : ∀ j,j ≠ k→(ad'.put k I L).L j = ad'.L j:=fun j hj=>updF_ne _ _ hj
    have kN' : Kb [ad.N] u s':=by rw [← e3]; exact kN
    have s0N : ∀ b,u.heap.get? b = none→s0.heap.get? b = none:=fun b hb=>none_old G₁.keep hb
    refine ⟨(G₁.kbT kN' (fun b hb=>?_) hNL (fun b hb=>?_) (fun b hb=>?_)).to _ ?_,⟨by rw [hse]; exact Var.kb a1 kN' hNL,ad'.put k I L,⟨e1,e2,e3⟩,?_,fun j hj=>?_⟩,Kx.ofKb kN' hNL⟩
    · rcases List.mem_cons.mp hb with rfl | hb
      · exact hmm' _ hNm
      · cases hb
    · rcases List.mem_cons.mp hb with rfl | hb
      · exact N0
      · cases hb
    · rcases List.mem_cons.mp hb with rfl | hb
      · refine hideG fun zD zhD=>?_
        refine e3a2 o'.d fun ob es ep e _=>?_
        refine zhD ?_
        clear zhD zD
        exact ⟨ob,e3 ▸ e⟩
      · cases hb
    · exact hsub2 _
    · have z:=o'.hide (mt':=(ad'.put k I L).IL (k + 1) ++ m) fun b hb=>by
        left
        rcases List.mem_append.mp hb with hb | hb
        · refine hideG fun zD zhD=>?_
          refine e1a2 (SoAd.mem_IL.mp hb) fun j hj q=>?_
          refine zhD ?_
          clear zhD zD
          by_cases hjk : j = k
          · subst hjk
            rcases q with q | q
            · rw [q,eI]; exact .head _
            · rw [q,eL]; exact .tail _ (.head _)
          · refine .tail _ (.tail _ (List.mem_append.mpr (.inl (SoAd.mem_IL.mpr ⟨j,by lia,?_⟩))))
            rw [eIj j hjk,eLj j hjk] at q; exact q
        · exact .tail _ (.tail _ (List.mem_append.mpr (.inr hb)))
      have e0 : updF (fun _ : Nat=>(0 : Int)) k 0 = fun _=>0:=by funext j; unfold updF; split <;> rfl
      have e0' : updF (fun _ : Nat=>([] : List Int)) k [] = fun _=>[]:=by funext j; unfold updF; split <;> rfl
      rw [e0,e0'] at z
      exact z
    · by_cases hjk : j = k
      · subst hjk
        rw [eI,eL]
        exact ⟨⟨s0N _ iN,s0N _ lN⟩,(fun q=>by obtain ⟨ob,e⟩:=G₁.mex _ q; rw [iN] at e; cases e),(fun q=>by obtain ⟨ob,e⟩:=G₁.mex _ q; rw [lN] at e; cases e)⟩
      · rw [eIj j hjk,eLj j hjk]
        exact a3 j (by lia)
  · intro s' F' zi94 k'
    refine e0a2 zi94 fun a1 zt107=>?_
    refine e1a3 zt107 fun ad' zs108 a2 a3=>?_
    refine e0a3 zs108 fun e1 e2 e3=>?_
    rw [List.length_map,List.length_map,List.length_range] at a2 a3
    exact h s' ad' e1 e2 e3 F' a1 a2 a3 k'
end
end Mine
namespace Mine
open PySem PySem.W PyProof.Rows PySem.Calls
noncomputable def stepNp (np : Nat→Int) (x : Step) : Nat→Int:=updF np x.2.1.toNat (np x.2.1.toNat + ((List.replicate x.2.2.toNat x.1.toNat).length : Nat))
noncomputable def stepSu (su : Nat→List Int) (x : Step) : Nat→List Int:=addSu su x.2.1.toNat (List.replicate x.2.2.toNat x.1.toNat)
noncomputable def npS (st : List Step) : Nat→Int:=st.foldl stepNp fun _=>0
noncomputable def suS (st : List Step) : Nat→List Int:=st.foldl stepSu fun _=>[]
theorem npS_snoc (st : List Step) (x : Step) : npS (st ++ [x]) = stepNp (npS st) x:=by unfold npS; rw [List.foldl_append]; rfl
theorem suS_snoc (st : List Step) (x : Step) : suS (st ++ [x]) = stepSu (suS st) x:=by unfold suS; rw [List.foldl_append]; rfl
noncomputable def StepOk (x : Step) : Prop:=(0 ≤ x.1∧x.1 < 5)∧(0 ≤ x.2.1∧x.2.1 < 5)∧0 ≤ x.2.2∧x.2.2 ≤ 2
theorem suS_len' : ∀ (st : List Step),(∀ x ∈ st,StepOk x)→∀ (su : Nat→List Int) (k : Nat),(st.foldl stepSu su k).length ≤ (su k).length + 2 * st.length
  | [],_,su,k=>by simp
  | x :: st,h,su,k=>by
    have ih:=suS_len' st (fun y hy=>h y (.tail _ hy)) (stepSu su x) k
    have h2:=addSu_len x.2.1.toNat (List.replicate x.2.2.toNat x.1.toNat) su k
    refine e0a4 (h x (.head _)) fun _ _ _ h3=>?_
    rw [List.length_replicate] at h2
    rw [List.foldl_cons,List.length_cons]
    unfold stepSu at ih ⊢
    lia
theorem suS_len (st : List Step) (h : ∀ x ∈ st,StepOk x) (k : Nat) : (suS st k).length ≤ 2 * st.length:=by
  have:=suS_len' st h (fun _=>[]) k
  simpa [suS] using this
section
variable {prog : Program} {w : World} {K : Frag} {mg mb : Str→Option Value} {A : Around} {env : Env} {s s0 : Shared} {E : Value→Shared→Prop} {Q : Flow→Shared→Prop} {ad : SoAd} {x : SoTk} {mt : List Addr} {ρ : List (Str × PyData)}
theorem mul_listR {l : Addr} {items : Array Value} {k : Nat} {y : Int} {u : Tok} {Q : Value→Shared→Prop}
    (hl : s.heap.get? l = some { cls:=.type "list",dict:=none,data:=.seq items k,slots:=#[] })
    (hlo : -(2 ^ 63 : Int) ≤ y) (hhi : y < 2 ^ 63) (hsz : items.size * y.toNat ≤ 2 ^ 24)
    (h : Q (.ref s.heap.objs.size) { s with heap:=s.heap.push { cls:=.type "list",data:=.seq (List.foldl (fun x1 x2=>x1 ++ x2) #[] (List.replicate (if items.isEmpty = true then 0 else y.toNat) items)) } }) :
    wpAny (model prog w) A (binaryOp .Mult (.ref l) (.int y u)) Q E s :=
  wpAny_binaryOp_repeat_ref (T := "list") (U := "int") (by decide) ⟨_,hl,rfl⟩ (fun s'=>typeIs_int s' y u) noFill_list_mul F.fills_int_mul F.slot_int_rmul repeat_list F.slot_int_index.lookup
    (call_meets F.slot_int_rmul (typeIs_int s y u) F.entry_int_rmul (F.args_int_rmul_2 _ _) (int___rmul___int_list y u l items k)
      ⟨hl,rfl,⟨_,hl,rfl⟩,call_meets F.slot_list_mul ⟨_,hl,rfl⟩ F.entry_list_mul (F.args_list_mul_2 _ _)
        (AutoListH.list___mul___list_int_3 l items k y u (by simp [Builtin.List.listFitsIndex]; lia) (by lia) (by simp [Builtin.List.listTooLong,sizeLine]; lia))
        ⟨hl,h⟩⟩)
theorem rep_items (v : Value) : ∀ k : Nat,k ≤ 2→(List.foldl (fun x1 x2=>x1 ++ x2) #[] (List.replicate (if (#[v] : Array Value).isEmpty = true then 0 else k) #[v])).toList = List.replicate k v
  | 0,_=>rfl
  | 1,_=>rfl
  | 2,_=>rfl
  | _ + 3,h=>by lia
theorem ints_rep (e : Int) (t : Tok) : ∀ k : Nat,IntsAre (List.replicate k (.int e t)) (List.replicate k e)
  | 0=>.nil
  | k + 1=>.cons e t (ints_rep e t k)
noncomputable def bdS : PyData→List (Str × PyData)
  | .tuple ds=>((["early","late","times"] : List Str).zip ds).reverse
  | _=>[]
set_option maxHeartbeats 8000000 in
theorem ex_adds {v1 : Value} {st : List Step} {rest : List Stmt} {p1 p2 p3 p4 p5 p6 p7 p8 p9 p10 p11 p12 p13 p14 p15 p16 : Pos} {k0 : Nat} (N : Nm mg mb) (SK : SoK K) (SM : SoM K) (MA : StarK K "add" 211) (hA : Aok 3 A) (hi : interactive env = false) (kE : env.kindOf "early" = some .local) (kL : env.kindOf "late" = some .local) (kT : env.kindOf "times" = some .local)
    (F : Fm K mg mb s0 env mt ρ s) (V : Var env s.heap "sorter" (.ref ad.S)) (o : SoA prog w ad x 5 (fun _=>0) (fun _=>[]) mt s.heap) (hmm : ∀ b ∈ ad.mut 5,b ∈ mt) (hmL : ∀ b ∈ ad.mut 5,¬ Loc env b) (h0 : ∀ b ∈ ad.mut 5,s0.heap.get? b = none)
    (hv1 : Var env s.heap "steps" v1) (r1 : Rp s.heap mt v1 (encS st)) (hst : st.length ≤ 100) (hok : ∀ y ∈ st,StepOk y) (hsub : Sub ρ ρ) (hsub2 : ∀ a b c,Sub (("times",a) :: ("late",b) :: ("early",c) :: ρ) ρ)
    (h : ∀ s',Fm K mg mb s0 env mt ρ s'→Var env s'.heap "sorter" (.ref ad.S)→SoA prog w ad x 5 (npS st) (suS st) mt s'.heap→Kx env ["early","late","times"] (ad.mut 5) s s'→wpAny (model prog w) A (execs rest env) Q E s') :
    wpAny (model prog w) A (execs (.For (.Tuple [.Name "early" p1,.Name "late" p2,.Name "times" p3] k0 p4) (.Name "steps" p5) [.Expr (.Call (.Attribute (.Name "sorter" p6) "add" p7) [.Name "late" p8,.Starred (.BinOp (.List [.Name "early" p9] p10) .Mult (.Name "times" p11) p12) p13] [] p14) p15] [] p16 :: rest) env) Q E s:=by
  refine ex_forXR ["early","late","times"] [] (ad.mut 5) bdS (fun _=>ρ) (fun i m u=>Var env u.heap "sorter" (.ref ad.S)∧SoA prog w ad x 5 (npS (st.take i)) (suS (st.take i)) m u.heap) F ⟨V,o⟩ hmm hmL
    (fun E=>srcAt_list hA.hd F.sv (wpAny_Name (hv1.load ⟨Keeps.rfl',r1⟩) (by decide))) ?_ hsub ?_ ?_ ?_
  · intro d hd
    refine hideG fun zD zhD=>?_
    refine e1a2 (List.mem_map.mp hd) fun y hy zr116=>?_
    subst zr116
    refine zhD ?_
    clear zhD zD
    exact tgtF_tuple (xs:=[("early",p1),("late",p2),("times",p3)]) (ds:=[.int y.1,.int y.2.1,.int y.2.2]) hA.hd rfl (fun x hx=>by simp at hx; rcases hx with rfl | rfl | rfl; exact .inl kE; exact .inl kL; exact .inl kT)
  · intro i m₁ m₂ u₁ u₂ zi97 mv
    refine e0a2 zi97 fun a1 a2=>?_
    exact ⟨mv.var _ _ (by decide) a1,a2.mv mv fun b hb=>hb⟩
  · rintro i d m u hdd hmm' G₁ zhX
    refine hideG fun zD zhD=>?_
    refine e0a2 zhX fun a1 a2=>?_
    refine zhD ?_
    clear zhD zD
    rw [List.getElem?_map] at hdd
    refine hideG fun zD zhD=>?_
    refine e1a2 (Option.map_eq_some_iff.mp hdd) fun y hy zr117=>?_
    subst zr117
    have hym : y ∈ st:=List.mem_of_getElem? hy
    refine e0a4 (hok y hym) fun zs118 zs119 t0 t2=>?_
    refine e0a2 zs118 fun e0 e5=>?_
    refine e0a2 zs119 fun l0 l5=>?_
    refine e1a2 (G₁.vars "early" (.int y.1) rfl) fun ve hve re=>?_
    refine e1a1 re.int_inv fun te zr120=>?_
    subst zr120
    refine e1a2 (G₁.vars "late" (.int y.2.1) rfl) fun vl hvl rl=>?_
    refine e1a1 rl.int_inv fun tl zr121=>?_
    subst zr121
    refine e1a2 (G₁.vars "times" (.int y.2.2) rfl) fun vt hvt rt=>?_
    refine e1a1 rt.int_inv fun tt zr122=>?_
    subst zr122
    refine e2a1 a2.s fun pp ff os=>?_
    refine e0a2 SM.add fun fAdd zt123=>?_
    refine e1a1 zt123 fun doc hAdd=>?_
    refine zhD ?_
    clear zhD zD
    have hmM : ∀ b ∈ ad.mut 5,b ∈ m:=fun b hb=>hmm' b (hmm b hb)
    refine wpAny_execs_cons (wpAny_Expr (star_call MA SK G₁.sv.gl.k a1 os.hid (by decide) sh_add hAdd.1 rfl (by rfl) (by rfl) (fun q u₁ k1 hq=>?_)) hi rfl)
    have hve1:=hve.ext (Keeps.ext k1)
    have hvl1:=hvl.ext (Keeps.ext k1)
    have hvt1:=hvt.ext (Keeps.ext k1)
    refine args_star1 (wpAny_Name (hvl1.load (spliced_star (if_so' rfl (wpAny_bind (wpAny_BinOp (list_one hve1 (wpAny_Name (Var.load (s:={ u₁ with heap:=u₁.heap.push { cls:=.type "list",data:=.seq #[.int y.1 te] } }) (hvt1.ext fun b o e=>Heap.get?_push_of_some _ e) ?_) (by decide)))))))) (by decide))
    refine mul_listR (s:={ u₁ with heap:=u₁.heap.push { cls:=.type "list",data:=.seq #[.int y.1 te] } }) (items:=#[.int y.1 te]) (k:=0) (Heap.get?_push_size _ rfl) (by lia) (by lia) (by show 1 * y.2.2.toNat ≤ _; lia) (wpAny_bind (wpAny_standAt (wpAny_pure ⟨_,_,0,rfl,Heap.get?_push_size _ rfl,?_,fun u₂ k2=>⟨rfl,?_,?_⟩⟩)))
    · have:=congrArg List.length (rep_items (.int y.1 te) y.2.2.toNat (by lia))
      rw [List.length_replicate,Array.length_toList] at this
      lia
    · exact Keeps.trans' ⟨_,_,rfl,fun b o e=>Heap.get?_push_of_some _ (Heap.get?_push_of_some _ e)⟩ k2
    · rw [rep_items _ _ (by lia)]
      have k12 : Keeps u u₂:=Keeps.trans' k1 (Keeps.trans' ⟨_,_,rfl,fun b o e=>Heap.get?_push_of_some _ (Heap.get?_push_of_some _ e)⟩ k2)
      have G₂:=G₁.keeps k12
      have o2:=a2.ext (Keeps.ext k12)
      have a1':=a1.ext (Keeps.ext k12)
      have GH : Gl K mg mb (hideAll u₂.heap (ad.mut 5)):=G₂.gl0.ext fun b ob e=>hideAll_get _ (Keeps.ext G₂.keep b ob e) fun q=>by rw [h0 b q] at e; cases e
      have e1 : ((y.1.toNat : Nat) : Int) = y.1:=Int.toNat_of_nonneg e0
      have e2 : ((y.2.1.toNat : Nat) : Int) = y.2.1:=Int.toNat_of_nonneg l0
      have hvs : IntsAre (List.replicate y.2.2.toNat (Value.int y.1 te)) ((List.replicate y.2.2.toNat y.1.toNat).map fun p : Nat=>(p : Int)):=by rw [List.map_replicate,e1]; exact ints_rep _ _ _
      have et : st.take (i + 1) = st.take i ++ [y]:=by rw [List.take_add_one,hy]; rfl
      have z:=add_old (prog:=prog) (w:=w) (A:=A) (E:=fun _ _=>False) (x:=x) (t:=tl) (k:=y.2.1.toNat) (ps:=List.replicate y.2.2.toNat y.1.toNat) (vs:=List.replicate y.2.2.toNat (Value.int y.1 te)) (Q:=fun v s'=>v = .none∧Fm K mg mb s0 env m ρ s'∧(Var env s'.heap "sorter" (.ref ad.S)∧SoA prog w ad x 5 (npS (st.take (i + 1))) (suS (st.take (i + 1))) m s'.heap)∧Kx env [] (ad.mut 5) u s') N SK SM hAdd (hA.le (by decide)) GH o2 hmM G₂.mex hvs (by rw [List.length_replicate]; lia) (by lia) (fun p hp=>by rw [List.eq_of_mem_replicate hp]; lia)
        (fun p=>by
          have h1:=suS_len (st.take i) (fun y hy=>hok y (List.mem_of_mem_take hy)) p
          have h2 : (st.take i).length ≤ st.length:=by rw [List.length_take]; lia
          lia) (fun s' k3 o3=>⟨rfl,?_,⟨Var.kb a1' k3 hmL,?_⟩,Kx.trans (Kx.of k12) (Kx.ofKb k3 hmL)⟩)
      · rw [e2] at z
        refine codeAny_mono z fun r s' hr=>?_
        cases r with
        | error e=>exact hr.elim
        | ok fl =>
          cases fl with
          | ret v =>
            refine hideG fun zD zhD=>?_
            refine e0a4 hr fun zr124 h1 h2 h3=>?_
            subst zr124
            refine zhD ?_
            clear zhD zD
            exact wpAny_execs_nil ⟨h1,h2,h3⟩
          | next=>exact hr
          | brk=>exact hr
          | cont=>exact hr
      · refine (G₂.kbT k3 hmM hmL h0 fun b hb=>?_).to _ (hsub2 _ _ _)
        refine hideG fun zD zhD=>?_
        refine e1a1 (o3.mutEx b hb) fun ob e=>?_
        refine zhD ?_
        clear zhD zD
        exact ⟨ob,e⟩
      · rw [et,npS_snoc,suS_snoc]; exact o3
  · intro s' F' zi98 k'
    refine e0a2 zi98 fun a1 a2=>?_
    rw [List.length_map,List.take_length] at a2
    exact h s' F' a1 a2 k'
end
end Mine
namespace Mine
open PySem PySem.W PyProof.Rows PySem.Calls
structure Rd1 where
  np : Nat→Int
  l : List Nat
  out : List Nat
noncomputable def liveF (held : Int) (l : List Nat) : List Nat:=l.filter fun k=>(k : Int) != held
noncomputable def roundF (sn : Nat→List Nat) (held : Int) (r : Rd1) : Rd1 :=
  let d:=doneAll sn (outF r.np r.l,[]) (liveF held r.l)
  ⟨d.1,d.2,r.out ++ r.l⟩
noncomputable def roundsF (sn : Nat→List Nat) (held : Int) (r : Rd1) : Nat→Rd1
  | 0=>r
  | i + 1=>roundF sn held (roundsF sn held r i)
structure RoundOk (sn : Nat→List Nat) (held : Int) (n : Nat) (r : Rd1) : Prop where
  lt : ∀ k ∈ r.l,k < n
  ln : r.l.length ≤ 5
  dn : DoneOk sn (outF r.np r.l,[]) (liveF held r.l)
section
variable {prog : Program} {w : World} {K : Frag} {mg mb : Str→Option Value} {A : Around} {env : Env} {s s0 : Shared} {E : Value→Shared→Prop} {Q : Flow→Shared→Prop} {ad : SoAd} {x : SoTk} {mt : List Addr} {ρ : List (Str × PyData)}
theorem rl_extend {R b : Addr} {l : List Nat} {m : Nat} {us : List Value} {l2 : List Nat} {Q : Value→Shared→Prop} (r : Rl R l s.heap) (hb : s.heap.get? b = some { cls:=.type "tuple",data:=.seq us.toArray m }) (hu : IntsAre us (l2.map fun j : Nat=>(j : Int))) (hz : l.length + l2.length ≤ 100000)
    (h : ∀ h',Rl R (l ++ l2) h'→Heap.SameBut R s.heap h'→Q .none { s with heap:=h' }) : wpAny (model prog w) A (call (.builtin "list.extend") [.ref R,.ref b]) Q E s:=by
  refine e1a2 r fun vs zs10 hi=>?_
  refine e1a1 zs10 fun n ho=>?_
  have h1 : vs.length = l.length:=by rw [hi.length,List.length_map]
  have h2 : us.length = l2.length:=by rw [hu.length,List.length_map]
  have hsz : vs.toArray.size + us.toArray.size ≤ sizeLine:=by rw [List.size_toArray,List.size_toArray,sizeLine_eq]; lia
  refine call_meets PySem.F.slot_list_extend ⟨_,ho,rfl⟩ PySem.F.entry_list_extend (PySem.F.args_list_extend_2 _ _) (AutoSeq1.list_extend_list_tuple_0 R vs.toArray n b us.toArray m (extend_door hsz) (Nat.le_trans (Nat.le_add_right _ _) hsz) (Nat.le_succ_of_le hsz)) ⟨ho,hb,?_⟩
  have e : vs.toArray ++ us.toArray = (vs ++ us).toArray:=by simp
  have ho' : (s.heap.update R (Obj.mapSeq fun x=>x ++ us.toArray)).get? R = some { cls:=.type "list",data:=.seq (vs ++ us).toArray (if (vs.toArray ++ us.toArray).size == vs.toArray.size then n else n + 1) }:=by
    rw [Heap.get?_update_self _ ho (by rw [mapSeq_app]; rfl),mapSeq_app,e]
  exact h _ ⟨vs ++ us,⟨_,ho'⟩,by rw [List.map_append]; exact hi.append hu⟩ (Heap.SameBut.update ..)
noncomputable def pH (held : Int) : PyData→Bool
  | .int a=>a != held
  | _=>false
theorem pH_data (held : Int) (l : List Nat) : (((l.map fun k : Nat=>PyData.int (k : Nat)).filter (pH held)).map fun d=>d) = (liveF held l).map fun k : Nat=>.int (k : Nat):=by
  rw [List.map_id',List.filter_map]
  rfl
theorem sh_ready {rv po fi : Value} {N : Addr} : getL "get_ready" (soEs x N rv po fi) = some none:=by kernel_rfl
theorem sh_done {rv po fi : Value} {N : Addr} : getL "done" (soEs x N rv po fi) = some none:=by kernel_rfl
set_option maxHeartbeats 8000000 in
theorem ex_rounds {sn : Nat→List Nat} {held : Int} {b : Bool} {po fi : Int} {r : Rd1} {Lo : Addr} {rest : List Stmt} {scope : Scope} {cl : List (Str × Addr)} {p0 p1 p2 p3 p4 p5 p6 p7 p8 p9 p10 p11 p12 p13 p14 p15 p16 p17 p18 p19 p20 p21 p22 p23 p24 p25 p26 : Pos} {k0 : Nat} (N : Nm mg mb) (NT : NmT mg) (SK : SoK K) (SM : SoM K) (MD : StarK K "done" 244) (hA : Aok 3 A) (hi : interactive env = false) (kT : env.kindOf "turn" = some .local) (kF : env.kindOf "fresh" = some .local) (kR : env.kindOf "range" = some .globalImplicit)
    (hclos : closureFor scope env = pure cl) (hcell : ∀ y ∈ scope.names,y.2 ≠ .cell) (hkind : scope.kind = .function) (hnames : ∀ y ∈ scope.names,y.2 = .local→scope.names.lookup y.1 = some .local) (hfree : ∀ ρ' : List (Str × PyData),ρ'.lookup ("held" : Str) = some (.int held)→FreeOk env scope cl ρ' [("held",.int held)])
    (hkn : ∀ C,(compEnvC scope cl C env).kindOf "name" = some .local) (hkp : ∀ C,((compEnvC scope cl C env).scope.kind == .class || ((compEnvC scope cl C env).scope.kind == .module && (compEnvC scope cl C env).locals != (compEnvC scope cl C env).globals)) = false)
    (F : Fm K mg mb s0 env mt [("ringed",.bool b),("held",.int held)] s) (V : Var env s.heap "sorter" (.ref ad.S)) (o : SoB prog w ad x 5 r.np sn (.ref ad.R) po fi mt s.heap) (rl : Rl ad.R r.l s.heap) (Vo : Var env s.heap "out" (.ref Lo)) (ro : Rl Lo r.out s.heap)
    (hmm : ∀ b ∈ Lo :: ad.R :: ad.mutB 5,b ∈ mt) (hmL : ∀ b ∈ Lo :: ad.R :: ad.mutB 5,¬ Loc env b) (h0 : ∀ b ∈ Lo :: ad.R :: ad.mutB 5,s0.heap.get? b = none) (hLo : Lo ∉ ad.R :: ad.mutB 5) (hsn : ∀ k,∀ u ∈ sn k,u < 5) (hsl : ∀ k,(sn k).length ≤ 1000)
    (hok : ∀ i,i < 6→RoundOk sn held 5 (roundsF sn held r i)) (hout : ∀ i,i ≤ 6→(roundsF sn held r i).out.length ≤ 1000)
    (h : ∀ s',Fm K mg mb s0 env mt [("ringed",.bool b),("held",.int held)] s'→Var env s'.heap "out" (.ref Lo)→Rl Lo (roundsF sn held r 6).out s'.heap→Kx env ["turn","fresh"] (Lo :: ad.R :: ad.mutB 5) s s'→wpAny (model prog w) A (execs rest env) Q E s')
    (l1 : (p5.endLine == p7.line) = true) (l2 : (p11.endLine == p13.line) = true) :
    wpAny (model prog w) A (execs (.For (.Name "turn" p0) (.Call (.Name "range" p1) [.Constant (.int 6) k0 p2] [] p3) [
      .Assign [.Name "fresh" p8] (.Call (.Attribute (.Name "sorter" p4) "get_ready" p5) [] [] p7) p9,
      .Expr (.Call (.Attribute (.Name "out" p10) "extend" p11) [.Name "fresh" p12] [] p13) p14,
      .Expr (.Call (.Attribute (.Name "sorter" p15) "done" p16) [.Starred (.ListComp (.Name "name" p17) [⟨.Name "name" p18,.Name "fresh" p19,[.Compare (.Name "name" p20) [.NotEq] [.Name "held" p21] p22],0⟩] scope p23) p24] [] p25) p26] [] p6 :: rest) env) Q E s:=by
  refine ex_forX ["turn"] ["fresh"] (Lo :: ad.R :: ad.mutB 5) (fun d=>[("turn",d)]) (fun _=>[("ringed",.bool b),("held",.int held)]) (fun i m u=>(Var env u.heap "sorter" (.ref ad.S)∧Var env u.heap "out" (.ref Lo))∧(∃ po fi,SoB prog w ad x 5 (roundsF sn held r i).np sn (.ref ad.R) po fi m u.heap)∧Rl ad.R (roundsF sn held r i).l u.heap∧Rl Lo (roundsF sn held r i).out u.heap) F
    ⟨⟨V,Vo⟩,⟨po,fi,o⟩,rl,ro⟩ hmm hmL (src_rangeI (n:=6) hA.hd kR N.range.1 N.range.2 (pe_int 6 _ _) (by decide)) (fun d _=>tgtF_name (.inl kT)) ⟨rfl,rfl,trivial⟩ ?_ ?_ ?_
  · intro i m₁ m₂ u₁ u₂ zi1 mv
    refine e0a4 zi1 fun zs11 zs12 a4 a5=>?_
    refine e0a2 zs11 fun a1 a2=>?_
    refine e2a1 zs12 fun po fi a3=>?_
    exact ⟨⟨mv.var _ _ (by decide) a1,mv.var _ _ (by decide) a2⟩,⟨po,fi,a3.mv mv fun b hb=>.tail _ (.tail _ hb)⟩,a4.at' fun ob e=>mv.keep _ ob (fun _=>.tail _ (.head _)) e,a5.at' fun ob e=>mv.keep _ ob (fun _=>.head _) e⟩
  · rintro i d m u hdd hmm' G₁ zhX
    refine hideG fun zD zhD=>?_
    refine e0a4 zhX fun zs13 zs14 a4 a5=>?_
    refine e0a2 zs13 fun a1 a2=>?_
    refine e2a1 zs14 fun po fi a3=>?_
    refine zhD ?_
    clear zhD zD
    have hi6 : i < 6:=by
      have:=(List.getElem?_eq_some_iff.mp hdd).1
      simpa using this
    have okI:=hok i hi6
    have ho1:=hout (i + 1) (by lia)
    have er : roundsF sn held r (i + 1) = roundF sn held (roundsF sn held r i):=rfl
    rw [er] at ho1 ⊢
    generalize roundsF sn held r i = ri at a3 a4 a5 okI ho1 ⊢
    refine hideQE fun QL EL hQL hEL=>?_
    have hmM : ∀ b ∈ Lo :: ad.R :: ad.mutB 5,b ∈ m:=fun b hb=>hmm' b (hmm b hb)
    have hmR : ∀ b ∈ ad.R :: ad.mutB 5,b ∈ m:=fun b hb=>hmM b (.tail _ hb)
    have hLR : ∀ b ∈ ad.R :: ad.mutB 5,¬ Loc env b:=fun b hb=>hmL b (.tail _ hb)
    have h0R : ∀ b ∈ ad.R :: ad.mutB 5,s0.heap.get? b = none:=fun b hb=>h0 b (.tail _ hb)
    have hml : ∀ b,Loc env b→b ∈ m:=fun b hb=>(G₁.locs b hb).1
    have hLoL : ¬ Loc env Lo:=hmL _ (.head _)
    refine hideG fun zD zhD=>?_
    refine e2a1 a3.sos fun tp tf os=>?_
    refine e0a2 SM.ready fun fRe zt15=>?_
    refine e1a1 zt15 fun docR hRe=>?_
    refine e0a2 SM.done fun fDo zt16=>?_
    refine e1a1 zt16 fun docD hDo=>?_
    refine zhD ?_
    clear zhD zD
    have GH : ∀ u' : Shared,Fm K mg mb s0 env m [] u'→Gl K mg mb (hideAll u'.heap (ad.R :: ad.mutB 5)):=fun u' Fu=>Fu.gl0.ext fun b ob e=>hideAll_get _ (Keeps.ext Fu.keep b ob e) fun q=>by rw [h0R b q] at e; cases e
    refine wpAny_execs_cons (wpAny_Assign_Name (so_call SK G₁.sv.gl.k a1 os fRe hRe.1 rfl rfl sh_ready (evalArgs_nil3 ⟨rfl,G₁.sv.gl.k,?_⟩) (by rfl) l1) (by rfl))
    refine ready_call N NT SK hRe (hA.le (by decide)) (GH u (G₁.to _ trivial)) a3 a4 hmR G₁.mex okI.lt (by have:=okI.ln; lia) fun v s1 k1 rv o1 r1=>?_
    have exR : ∀ b ∈ ad.R :: ad.mutB 5,∃ ob,s1.heap.get? b = some ob:=fun b hb=>by
      rcases List.mem_cons.mp hb with rfl | hb
      · obtain ⟨vs,⟨c,e⟩,_⟩:=r1; exact ⟨_,e⟩
      · exact o1.mutEx b hb
    have F₁:=(G₁.to [("ringed",.bool b),("held",.int held)] ⟨rfl,rfl,trivial⟩).kbT k1 hmR hLR h0R exR
    refine F₁.store (.inl kF) rv fun s2 F₂ k2=>?_
    have b1:=k2.var _ _ (by decide) (Var.kb a1 k1 hLR)
    have b2:=k2.var _ _ (by decide) (Var.kb a2 k1 hLR)
    have b3:=o1.kl k2 hml fun b hb=>hLR b (.tail _ hb)
    have b4 : Rl ad.R [] s2.heap:=r1.at' fun ob e=>k2.ext _ ob (hLR _ (.head _)) e
    have b5 : Rl Lo ri.out s2.heap:=(a5.at' fun ob e=>k1.ext _ ob hLo e).at' fun ob e=>k2.ext _ ob hLoL e
    have q2 : Kx env ["fresh"] (Lo :: ad.R :: ad.mutB 5) u s2:=Kx.trans ((Kx.ofKb k1 hLR).mono (fun _ h=>h) fun b hb=>.tail _ hb) (Kx.ofKl k2)
    clear a1 a2 a3 a4 a5
    refine hideG fun zD zhD=>?_
    refine e1a2 (F₂.vars "fresh" _ rfl) fun vf hvf rf=>?_
    refine e3a4 rf.tuple_inv fun T us nT zr17 hTm hT rTs=>?_
    subst zr17
    refine zhD ?_
    clear zhD zD
    have hui : IntsAre us (ri.l.map fun j : Nat=>(j : Int)):=RpA.ints (by rw [List.map_map]; exact rTs)
    refine hideG fun zD zhD=>?_
    refine e1a2 (id b5) fun vo zs18 hvo=>?_
    refine e1a1 zs18 fun co hlo=>?_
    refine zhD ?_
    clear zhD zD
    have hol : ri.out.length + ri.l.length ≤ 1000:=by
      have : (roundF sn held ri).out = ri.out ++ ri.l:=rfl
      rw [this,List.length_append] at ho1; exact ho1
    refine wpAny_execs_cons (wpAny_Expr (wpAny_Call_method rfl (by rfl) l2 PySem.F.plainAttrs_list PySem.F.slot_list_extend PySem.F.type_list_extend (wpAny_Name (b2.load ⟨⟨_,hlo,rfl⟩,fun b hb=>by cases hb; exact ⟨_,hlo,rfl⟩,callWith_builtin rfl (args1 (wpAny_Name (hvf.load ?_) (by decide)))⟩) (by decide))) hi rfl)
    refine rl_extend b5 hT hui (by lia) fun h3 r3 hs3=>?_
    have kb3 : ∀ b ob,b ≠ Lo→s2.heap.get? b = some ob→h3.get? b = some ob:=hs3.extBut
    have F₃:=F₂.hidTurn (tk:=s2.toks) (hmM _ (.head _)) hLoL (h0 _ (.head _)) kb3 (let ⟨_,⟨_,e⟩,_⟩:=r3; ⟨_,e⟩)
    have k3 : Kb [Lo] s2 { s2 with heap:=h3,toks:=s2.toks }:=⟨h3,_,rfl,fun b ob hb e=>kb3 b ob (fun q=>hb (q ▸ .head _)) e⟩
    have hL1 : ∀ b ∈ [Lo],¬ Loc env b:=fun b hb=>by rcases List.mem_cons.mp hb with rfl | hb; exact hLoL; cases hb
    have c1:=Var.kb b1 k3 hL1
    have c2:=Var.kb b2 k3 hL1
    have c3:=b3.kb k3 (fun b hb=>by rcases List.mem_cons.mp hb with rfl | hb; exact hmM _ (.head _); cases hb) (fun b hb q=>by
      rcases List.mem_cons.mp q with rfl | q
      · exact hLo (.tail _ hb)
      · cases q)
    have c4 : Rl ad.R [] h3:=b4.at' fun ob e=>kb3 _ ob (fun q=>hLo (q ▸ .head _)) e
    have q3 : Kx env ["fresh"] (Lo :: ad.R :: ad.mutB 5) u { s2 with heap:=h3,toks:=s2.toks }:=Kx.trans q2 ((Kx.ofKb k3 hL1).mono (fun _ h=>h) fun b hb=>by rcases List.mem_cons.mp hb with rfl | hb; exact .head _; cases hb)
    show wpAny _ _ _ _ _ ({ s2 with heap:=h3,toks:=s2.toks } : Shared)
    generalize hs4 : ({ s2 with heap:=h3,toks:=s2.toks } : Shared) = s3 at F₃ c1 c2 c3 q3 ⊢
    have hh3 : s3.heap = h3:=by rw [← hs4]
    rw [← hh3] at r3 c4
    clear b1 b2 b3 b4 b5 kb3 k3 hs3 hs4
    refine hideG fun zD zhD=>?_
    refine e2a1 c3.sos fun tp3 tf3 os3=>?_
    refine zhD ?_
    clear zhD zD
    refine wpAny_execs_cons (wpAny_Expr (star_call MD SK F₃.sv.gl.k c1 os3 (by decide) sh_done hDo.1 rfl (by rfl) (by rfl) (fun q s4 k4 hq=>?_)) hi rfl)
    have F₄:=F₃.keeps k4
    refine args_star0 (if_so' rfl (wpAny_bind (comp_new F₄.sv cl (fun d=>[("name",d)]) [("held",.int held)] (pH held) (fun d=>d) (src_tuple (ds:=ri.l.map fun k : Nat=>.int (k : Nat)) hA.hd (pe_name _ rfl) |>.here F₄.sv) hclos hcell hkind hnames (hfree _ rfl) ?_ ?_ ?_ ?_ fun D vs s5 k5 hDn hDl hDr=>?_)))
    · intro C d _
      exact tgt_name (hkn C) (hkp C)
    · intro C d hd
      refine hideG fun zD zhD=>?_
      refine e1a2 (List.mem_map.mp hd) fun k hk zr19=>?_
      subst zr19
      refine zhD ?_
      clear zhD zD
      exact pt_ne _ (pe_name _ rfl) (pe_name _ rfl)
    · intro C d hd _
      refine hideG fun zD zhD=>?_
      refine e1a2 (List.mem_map.mp hd) fun k hk zr20=>?_
      subst zr20
      refine zhD ?_
      clear zhD zD
      exact pe_name _ rfl
    · rw [List.length_map,sizeLine_eq]; have:=okI.ln; lia
    · rw [pH_data] at hDr
      have hvi : IntsAre vs ((liveF held ri.l).map fun j : Nat=>(j : Int)):=RpA.ints (by rw [List.map_map]; exact hDr)
      have hll : (liveF held ri.l).length ≤ 5:=Nat.le_trans (List.length_filter_le _ _) okI.ln
      have hvl : vs.length = (liveF held ri.l).length:=by rw [hvi.length,List.length_map]
      refine hideG fun zD zhD=>?_
      refine e1a1 hDl fun cD hDo'=>?_
      refine zhD ?_
      clear zhD zD
      refine wpAny_bind (wpAny_standAt (wpAny_pure ⟨D,vs.toArray,cD,rfl,hDo',by rw [List.size_toArray]; lia,fun s6 k6=>⟨rfl,Keeps.trans' k5 k6,?_⟩⟩))
      have k36 : Keeps s3 s6:=Keeps.trans' k4 (Keeps.trans' k5 k6)
      have F₆:=F₃.keeps k36
      have o6:=c3.ext (Keeps.ext k36)
      have r6:=c4.at' (Keeps.ext k36 _)
      have z:=done_call (prog:=prog) (w:=w) (A:=A) (E:=fun _ _=>False) (x:=x) (ad:=ad) (ks:=liveF held ri.l) (l:=[]) (vs:=vs) (np:=outF ri.np ri.l) (mt:=m) (n:=5) (Q:=fun v s'=>v = .none∧Kb (ad.R :: ad.mutB 5) s6 s'∧(∃ po fi,SoB prog w ad x 5 (roundF sn held ri).np sn (.ref ad.R) po fi m s'.heap)∧Rl ad.R (roundF sn held ri).l s'.heap) N NT SK hDo (hA.le (by decide)) (GH s6 (F₆.to _ trivial)) o6 r6 hmR F₆.mex
        (fun k hk=>okI.lt k (List.mem_filter.mp hk).1) hsn hsl (by simp) hvi hll okI.dn (fun s' k' o' r'=>⟨rfl,k',⟨_,_,o'⟩,r'⟩)
      refine codeAny_mono z fun rr s' hr=>?_
      cases rr with
      | error e=>exact hr.elim
      | ok fl =>
        cases fl with
        | ret v =>
          refine hideG fun zD zhD=>?_
          refine e0a4 hr fun zr21 k7 zs22 r7=>?_
          subst zr21
          refine e2a1 zs22 fun po' fi' o7=>?_
          refine zhD ?_
          clear zhD zD
          refine wpAny_execs_nil (hQL _ _ ⟨(F₆.kbT k7 hmR hLR h0R fun b hb=>?_).to _ ⟨rfl,rfl,trivial⟩,⟨⟨Var.kb (c1.ext (Keeps.ext k36)) k7 hLR,Var.kb (c2.ext (Keeps.ext k36)) k7 hLR⟩,⟨po',fi',o7⟩,r7,(r3.at' (Keeps.ext k36 _)).at' fun ob e=>k7.ext _ ob hLo e⟩,Kx.trans q3 (Kx.trans (Kx.of k36) ((Kx.ofKb k7 hLR).mono (fun _ h=>h) fun b hb=>.tail _ hb))⟩)
          rcases List.mem_cons.mp hb with rfl | hb
          · obtain ⟨vs',⟨c,e⟩,_⟩:=r7; exact ⟨_,e⟩
          · exact o7.mutEx b hb
        | next=>exact hr
        | brk=>exact hr
        | cont=>exact hr
  · intro s' F' zi2 k'
    refine e0a4 zi2 fun zs23 _ a4 a5=>?_
    refine e0a2 zs23 fun a1 a2=>?_
    rw [List.length_map,List.length_map,List.length_range] at a5
    exact h s' F' a2 a5 k'
end
end Mine
namespace Mine
open PySem PySem.W PyProof.Rows PySem.Calls
noncomputable def SortPost (s : Shared) (Q : Value→Shared→Prop) : Prop:=∀ (S D N : Addr) (x : SoTk) (t1 t2 : Tok) (h : Heap) (tk : Nat),(∀ b o,s.heap.get? b = some o→h.get? b = some o)→s.heap.get? S = none→s.heap.get? D = none→s.heap.get? N = none →
  h.get? S = some { cls:=.ref 261,dict:=some D }→h.get? D = some (soDict x N .none (.int 0 t1) (.int 0 t2))→h.get? N = some { cls:=.type "dict",data:=.dict #[] }→Q (.ref S) ⟨h,s.gens,s.drawn,tk,s.os⟩
noncomputable def SortNew (prog : Program) (w : World) (K : Frag) : Prop:=∀ (E : Value→Shared→Prop) (s : Shared) (Q : Value→Shared→Prop),K.In s.heap→SortPost s Q→wpAny (model prog w) AX (call (.ref 261) []) Q E s
structure NmR (mg : Str→Option Value) (K : Frag) : Prop where
  sorter : mg "TopologicalSorter" = some (.ref 261)
  cls : ∃ o c,K.lookup 261 = some o∧o.cls = .type "type" ∧ o.data = .cls c
section
variable {prog : Program} {w : World} {K : Frag} {mg mb : Str→Option Value} {A : Around} {env : Env} {s s0 : Shared} {E : Value→Shared→Prop} {ad : SoAd} {x : SoTk} {mt mt' : List Addr} {ρ : List (Str × PyData)} {n : Nat} {np : Nat→Int} {su : Nat→List Int}
theorem Fm.remt (F : Fm K mg mb s0 env mt ρ s) (hi : ∀ y d,ρ.lookup y = some d→(∃ i,d = .int i) ∨ ∃ b,d = .bool b) (hl : ∀ b,Loc env b→b ∈ mt') (hex : ∀ b ∈ mt',∃ o,s.heap.get? b = some o) : Fm K mg mb s0 env mt' ρ s:=by
  refine ⟨F.gl0,fun y d e=>?_,hex,F.glb,F.blt,F.knd,F.keep,fun b hb=>⟨hl b hb,(F.locs b hb).2⟩,F.lns,F.cels,F.cinj,F.cknd⟩
  obtain ⟨v,hv,hr⟩:=F.vars y d e
  refine ⟨v,hv,?_⟩
  rcases hi y d e with ⟨i,rfl⟩ | ⟨b,rfl⟩
  · obtain ⟨t,rfl⟩:=hr.int_inv; exact .int _ _
  · rw [hr.bool_inv]; exact .bool _
theorem SoA.toB {h : Heap} {sn : Nat→List Nat} (o : SoA prog w ad x n np su mt h) (hsn : ∀ k,k < n→su k = (sn k).map fun j : Nat=>(j : Int)) (hN : ad.N ∉ mt') (hL : ∀ k,k < n→ad.L k ∉ mt') (hm : ∀ b ∈ mt',b = ad.D ∨ b ∈ mt) : SoB prog w ad x n np sn .none 0 0 mt' h:=by
  refine hideG fun zD zhD=>?_
  refine e2a1 o.s fun p f os=>?_
  refine zhD ?_
  clear zhD zD
  have hS:=of_hideAll _ os.i
  have hD:=of_hideAll _ os.d
  refine ⟨hideAll_get _ hS fun q=>?_,⟨p,f,hD⟩,o.d.at fun ob e=>?_,fun k hk=>?_,fun k hk=>?_,o.lo⟩
  · rcases hm _ q with z | z
    · rw [z,hD] at hS; simp [soDict,dictOf] at hS
    · exact (hid_not os.i).1 z
  · exact hideAll_get _ e hN
  · refine hideG fun zD zhD=>?_
    obtain ⟨t,t',dx,e,e2⟩:=o.nd k hk
    refine zhD ?_
    clear zhD zD
    refine ⟨t,t',dx,e,hideAll_get _ (of_hideAll _ e2) fun q=>?_⟩
    rcases hm _ q with z | z
    · have:=of_hideAll _ e2
      rw [z,hD] at this; simp [soDict,dictOf,soEs,emptyD] at this
    · exact (hid_not e2).1 z
  · refine hideG fun zD zhD=>?_
    refine e1a2 (o.li k hk) fun vs a b=>?_
    refine zhD ?_
    clear zhD zD
    refine .mkList a (hL k hk) ?_
    rw [hsn k hk] at b
    have:=RpA.ofInts (h:=h) (mt:=mt') b
    rw [List.map_map] at this
    exact this
theorem SoA.start {h : Heap} {S D N : Addr} {t1 t2 : Tok} (hS : (hideAll h mt).get? S = some { cls:=.ref 261,dict:=some D }) (hD : (hideAll h mt).get? D = some (soDict x N .none (.int 0 t1) (.int 0 t2))) (hN : h.get? N = some { cls:=.type "dict",data:=.dict #[] }) (lo : (N == sysModules) = false) (R : Addr) (I L : Nat→Addr) :
    SoA prog w ⟨S,D,N,R,I,L⟩ x 0 (fun _=>0) (fun _=>[]) mt h :=
  ⟨⟨t1,t2,hS,hD⟩,⟨_,#[],0,hN,⟨rfl,rfl,rfl⟩,rfl,fun _ he=>by simp at he,Pairs.nil,List.nodup_nil⟩,fun k hk=>absurd hk (Nat.not_lt_zero k),fun k hk=>absurd hk (Nat.not_lt_zero k),fun j k hj=>absurd hj (Nat.not_lt_zero j),lo⟩
theorem SoB.grow {h : Heap} {sn : Nat→List Nat} {rv : Value} {po fi : Int} (o : SoB prog w ad x n np sn rv po fi mt h) (hm : ∀ b ∈ mt',b ∈ mt ∨ (∃ k,k < n∧b = ad.I k) ∨ ((b ≠ ad.S∧b ≠ ad.N)∧(∀ k,k < n→b ≠ ad.L k)∧∀ ob,h.get? b = some ob→ob ≠ emptyD)) : SoB prog w ad x n np sn rv po fi mt' h:=by
  have hNd:=o.N
  refine e3a4 hNd fun oN es ep eN gN dN rN=>?_
  refine ⟨hideAll_get _ (of_hideAll _ o.s) fun q=>?_,o.d,⟨oN,es,ep,hideAll_get _ (of_hideAll _ eN) fun q=>?_,gN,dN,rN⟩,fun k hk=>?_,fun k hk=>?_,o.lo⟩
  · rcases hm _ q with z | ⟨k,hk,z⟩ | ⟨⟨z,_⟩,_⟩
    · exact (hid_not o.s).1 z
    · obtain ⟨_,_,dx,e,_⟩:=o.nd k hk
      have:=of_hideAll _ o.s
      rw [z,e] at this; simp [nodeObj] at this
    · exact z rfl
  · rcases hm _ q with z | ⟨k,hk,z⟩ | ⟨⟨_,z⟩,_⟩
    · exact (hid_not eN).1 z
    · obtain ⟨_,_,dx,e,_⟩:=o.nd k hk
      have:=of_hideAll _ eN
      rw [z,e] at this; cases this; cases dN
    · exact z rfl
  · obtain ⟨t,t',dx,e,e2⟩:=o.nd k hk
    refine ⟨t,t',dx,e,hideAll_get _ (of_hideAll _ e2) fun q=>?_⟩
    rcases hm _ q with z | ⟨j,hj,z⟩ | ⟨_,_,z⟩
    · exact (hid_not e2).1 z
    · obtain ⟨_,_,dx',e',_⟩:=o.nd j hj
      have:=of_hideAll _ e2
      rw [z,e'] at this; simp [nodeObj,emptyD] at this
    · exact z _ (of_hideAll _ e2) rfl
  · refine e2a4 ((o.li k hk).list_inv) fun La vs eLa hn hl hr=>?_
    cases eLa
    refine .mkList hl (fun q=>?_) ?_
    · rcases hm _ q with z | ⟨j,hj,z⟩ | ⟨_,z,_⟩
      · exact hn z
      · obtain ⟨_,_,dx',e',_⟩:=o.nd j hj
        refine e1a1 hl fun c e=>?_
        rw [z,e'] at e; simp [nodeObj] at e
      · exact z k hk rfl
    · have hi : IntsAre vs ((sn k).map fun j : Nat=>(j : Int)):=RpA.ints (by rw [List.map_map]; exact hr)
      have:=RpA.ofInts (h:=h) (mt:=mt') hi
      rw [List.map_map] at this
      exact this
theorem sh_prep {rv po fi : Value} {N : Addr} : getL "prepare" (soEs x N rv po fi) = some none:=by kernel_rfl
theorem Fm.prepd {sn : Nat→List Nat} {po fi : Int} {outer : List Env} {u : Shared} {R : Addr} (F : Fm K mg mb s0 env mt ρ s) (hi : ∀ y d,ρ.lookup y = some d→(∃ i,d = .int i) ∨ ∃ b,d = .bool b) (hfe : env.frame = some env.locals) (nl : ∀ b ∈ framesOf outer,¬ Loc env b) (n0 : ∀ b ∈ ad.D :: framesOf outer,s0.heap.get? b = none) (DL : ¬ Loc env ad.D)
    (P : Prepd prog w ad x n np sn po fi mt (framesOf (env :: outer)) s u R) : Fm K mg mb s0 env mt ρ u∧∀ y v,Var env s.heap y v→Var env u.heap y v:=by
  have k:=P.kb
  have f:=P.fs
  rw [framesOf_cons hfe] at k f
  have hD : ∃ o,u.heap.get? ad.D = some o:=let ⟨_,_,e⟩:=P.so.d; ⟨_,e⟩
  refine e2a2 k fun h' tk zr279 kb=>?_
  subst zr279
  have kn : ∀ m,s.heap.Ns env.locals m→h'.Ns env.locals m:=fun m hm=>by
    refine e3a3 hm fun o es ep ho hd r=>?_
    refine e1a1 (f env.locals (.head _) o ho) fun sl e=>?_
    exact ⟨_,es,ep,e,hd,r⟩
  have nf : ∀ b,b ≠ ad.D→b ≠ env.locals→b ∉ framesOf outer→b ∉ ad.D :: env.locals :: framesOf outer:=fun b h0 h1 h2 q=>by
    rcases List.mem_cons.mp q with q | q
    · exact h0 q
    · rcases List.mem_cons.mp q with q | q
      · exact h1 q
      · exact h2 q
  have kc : ∀ y b o,env.cells.lookup y = some b→s.heap.get? b = some o→h'.get? b = some o:=fun y b o e ho=>kb b o (nf b (fun q=>DL (.inr ⟨y,q ▸ e⟩)) (F.cels y b e).2 fun q=>nl b q (.inr ⟨y,e⟩)) ho
  refine ⟨F.anew (fun y d e=>?_) (fun b ⟨o,e⟩=>?_) kn kc fun b o e=>kb b o (nf b (fun q=>by rw [q,n0 _ (.head _)] at e; cases e) (fun q=>by rw [q,(F.locs _ (.inl rfl)).2] at e; cases e) (fun q=>by rw [n0 b (.tail _ q)] at e; cases e)) (Keeps.ext F.keep b o e),fun y v V=>V.anew kn kc⟩
  · refine e1a2 (F.vars y d e) fun v hv hr=>?_
    refine ⟨v,hv.anew kn kc,?_⟩
    rcases hi y d e with ⟨i,rfl⟩ | ⟨b,rfl⟩
    · obtain ⟨t,rfl⟩:=hr.int_inv; exact .int _ _
    · rw [hr.bool_inv]; exact .bool _
  · by_cases q0 : b = ad.D
    · exact q0 ▸ hD
    · by_cases q : b ∈ env.locals :: framesOf outer
      · obtain ⟨sl,e'⟩:=f b q o e; exact ⟨_,e'⟩
      · exact ⟨o,kb b o (fun z=>by
          rcases List.mem_cons.mp z with z | z
          · exact q0 z
          · exact q z) e⟩
end
noncomputable def fdRun : FuncData:=fdS (topAt 17) "_law_run" "_law_run" (.str "law_ox0192_01" 595) (.ref 291) .none .none
end Mine
namespace Mine
open PySem PySem.W PyProof.Rows PySem.Calls
section
variable {prog : Program} {w : World} {K : Frag} {mg mb : Str→Option Value} {A : Around} {s : Shared} {E : Value→Shared→Prop} {outer : List Env} {mt : List Addr}
set_option maxHeartbeats 16000000 in
theorem run_call {v1 : Value} {t : Tok} {held : Int} {st : List Step} {sn : Nat→List Nat} {Q : Value→Shared→Prop} (N : Nm mg mb) (NS : NmS mg K) (NN : NodeNew prog w K) (NT : NmT mg) (NY : NmY mg mb) (NR : NmR mg K) (SN : SortNew prog w K) (SK : SoK K) (SM : SoM K) (MA : StarK K "add" 211) (MD : StarK K "done" 244) (C : CycK K mg)
    (H : FnAt K 292 fdRun) (hA : Aok 4 A) (hd : A.depth ≤ 600) (hu : A.units ≤ 800) (G : Gl K mg mb (hideAll s.heap (framesOf outer))) (hmm : ∀ b ∈ framesOf outer,b ∈ mt) (hex : ∀ a ∈ mt,∃ o,s.heap.get? a = some o) (hfr : A.frames = some outer) (B : Below s.heap outer)
    (r1 : Rp s.heap mt v1 (encS st)) (hst : st.length ≤ 100) (hok : ∀ y ∈ st,StepOk y) (hsu : ∀ k,suS st k = (sn k).map fun j : Nat=>(j : Int)) (hsn : ∀ k,∀ u ∈ sn k,u < 5) (hsl : ∀ k,(sn k).length ≤ 500)
    (hro : ∀ i,i < 6→RoundOk sn held 5 (roundsF sn held ⟨npS st,ready0 (npS st) 5,[]⟩ i)) (hro2 : ∀ i,i ≤ 6→(roundsF sn held ⟨npS st,ready0 (npS st) 5,[]⟩ i).out.length ≤ 1000)
    (h : ∀ v s' b,(b = false∧Acyc sn 5 ∨ b = true∧Cyc sn 5)→Kb (framesOf outer) s s'→FrS (framesOf outer) s.heap s'.heap→Rp s'.heap mt v (.tuple [.list ((roundsF sn held ⟨npS st,ready0 (npS st) 5,[]⟩ 6).out.map fun k : Nat=>.int (k : Nat)),.bool b])→Q v s') :
    wpAny (model prog w) A (call (.ref 292) [v1,.int held t]) Q E s:=by
  refine call_defP ["steps","held"] (fd:=fdRun) (body:=bodyOf (topAt 17)) (mg:=mg) (mb:=mb) (binds:=[("steps",v1),("held",.int held t)]) (mt:=mt) (hid:=framesOf outer) (by have:=hA.dp; lia) H.1 rfl H.2 rfl G hmm hex
    (by kernel_rfl) rfl (by decide) (show ∀ x ∈ (["steps","held"] : List Str),(scopeOf (topAt 17)).names.lookup x = some .local ∨ (scopeOf (topAt 17)).names.lookup x = some .cell from by decide +kernel) fun s₂ env k2 he hF hv=>?_
  have F:=hF [("held",.int held)] (fun y d e=>by
    rcases lookup_put e with ⟨rfl,rfl⟩ | ⟨_,e⟩
    · exact ⟨_,.tail _ (.head _),.int _ _⟩
    · cases e)
  have Vs:=hv "steps" v1 (.head _)
  have hA1:=hA.deeper env
  have hd1 : (A.deeper env).depth ≤ 601:=by show A.depth + 1 ≤ 601; lia
  have hu1 : (A.deeper env).units ≤ 803:=by show A.units + 3 ≤ 803; lia
  have hfr1 : (A.deeper env).frames = some (env :: outer):=by show A.frames.map _ = _; rw [hfr]; rfl
  have hfe : env.frame = some env.locals:=by rw [he]; rfl
  have kd : ∀ y,env.kindOf y = (scopeOf (topAt 17)).names.lookup y:=fun y=>by rw [he]; rfl
  have hi : interactive env = false:=by rw [he]; kernel_rfl
  revert hfr1
  revert hu1
  revert hd1
  revert hA1
  refine genA (A.deeper env) fun A' hA1 hd1 hu1 hfr1=>?_
  have exF : ∀ b ∈ framesOf outer,∃ ob,s.heap.get? b = some ob:=fun b hb=>let ⟨ob,e,_⟩:=B.mem b hb; ⟨ob,e⟩
  have hm : ∀ b,Loc env b→b ∈ mtOf env ++ mt:=fun b hb=>(F.locs b hb).1
  have s0n : ∀ b,s₂.heap.get? b = none→(hidS s (framesOf outer)).heap.get? b = none:=fun b hb=>none_old F.keep hb
  refine hideG fun zD zhD=>?_
  refine e2a3 NR.cls fun oc cc hcl hct hcd=>?_
  refine zhD ?_
  clear zhD zD
  refine wpAny_execs_cons (wpAny_Assign_Name (Call_Name rfl (nm_g F.sv (by rw [kd]; kernel_rfl) NR.sorter (callWith_class rfl (evalArgs_nil3 ⟨⟨oc,cc,F.sv.gl.k _ _ hcl,hct,hcd⟩,?_⟩)))) (by rfl))
  refine of_AX hA1.hd (by lia) (by lia) (SN _ _ _ F.sv.gl.k fun S D Nn x t1 t2 h3 tk3 k3 nS nD nN gS gD gN=>?_)
  have kp3 : Keeps s₂ ⟨h3,s₂.gens,s₂.drawn,tk3,s₂.os⟩:=⟨h3,tk3,rfl,k3⟩
  have Nmt : Nn ∉ mtOf env ++ mt:=not_mt F.mex nN
  have Smt : S ∉ mtOf env ++ mt:=not_mt F.mex nS
  have Dmt : D ∉ mtOf env ++ mt:=not_mt F.mex nD
  have NL : ¬ Loc env Nn:=fun hl=>Nmt (hm _ hl)
  have SL : ¬ Loc env S:=fun hl=>Smt (hm _ hl)
  have DL : ¬ Loc env D:=fun hl=>Dmt (hm _ hl)
  have SN' : S ≠ Nn:=fun q=>by rw [q,gN] at gS; cases gS
  have DN' : D ≠ Nn:=fun q=>by rw [q,gN] at gD; simp [soDict,dictOf,soEs] at gD
  have SD' : S ≠ D:=fun q=>by rw [q,gD] at gS; simp [soDict,dictOf] at gS
  have F₃:=F.start (wr:=[Nn]) kp3 (fun b hb=>by rcases List.mem_cons.mp hb with rfl | hb; exact nN; cases hb) (fun b hb=>by rcases List.mem_cons.mp hb with rfl | hb; exact ⟨_,gN⟩; cases hb)
  have hm1 : ∀ b,Loc env b→b ∈ Nn :: (mtOf env ++ mt):=fun b hb=>.tail _ (hm b hb)
  refine F₃.storeV (.inl (by rw [kd]; kernel_rfl)) [("held",.int held)] ⟨rfl,trivial⟩ rfl fun s₄ F₄ V4 k4=>?_
  have gS4:=k4.ext S _ SL gS
  have gD4:=k4.ext D _ DL gD
  have gN4:=k4.ext Nn _ NL gN
  have Vs4:=k4.var _ _ (by decide) (Vs.ext (Keeps.ext kp3))
  have loN : (Nn == sysModules) = false:=by
    have hne : Nn ≠ sysModules:=fun q=>by
      refine hideG fun zD zhD=>?_
      refine e1a1 SK.sm fun ob e=>?_
      refine zhD ?_
      clear zhD zD
      have:=F.sv.gl.k _ _ e
      rw [← q,nN] at this; cases this
    exact beq_eq_false_iff_ne.mpr hne
  have nm1 : ∀ b,b ∉ mtOf env ++ mt→b ≠ Nn→b ∉ Nn :: (mtOf env ++ mt):=fun b h1 h2 q=>by
    rcases List.mem_cons.mp q with q | q
    · exact h2 q
    · exact h1 q
  have oA : SoA prog w ⟨S,D,Nn,0,fun _=>0,fun _=>0⟩ x 0 (fun _=>0) (fun _=>[]) (Nn :: (mtOf env ++ mt)) s₄.heap:=SoA.start (hideAll_get _ gS4 (nm1 S Smt SN')) (hideAll_get _ gD4 (nm1 D Dmt DN')) gN4 loN _ _ _
  refine ex_add5 (ad:=⟨S,D,Nn,0,fun _=>0,fun _=>0⟩) N NS NN SK SM (hA1.le (by decide)) (by lia) (by lia) hi (by rw [kd]; kernel_rfl) (by rw [kd]; kernel_rfl) F₄ rfl V4 oA (.head _) NL (s0n _ nN) (fun s₅ ad eS eD eN F₅ V5 o5 hIL k5=>?_) (by rfl) ⟨rfl,trivial⟩ (fun d=>⟨rfl,trivial⟩)
  dsimp only at eS eD eN V5
  have s0s : ∀ b,(hidS s (framesOf outer)).heap.get? b = none→b ∈ mt ∨ s.heap.get? b = none:=fun b hb=>by
    by_cases q : b ∈ framesOf outer
    · exact .inl (hmm b q)
    · right
      cases e : s.heap.get? b with
      | none=>rfl
      | some o => have:=hideAll_get (framesOf outer) e q
                  rw [show (hideAll s.heap (framesOf outer)).get? b = none from hb] at this; cases this
  have mtL : ∀ b ∈ mtOf env,Loc env b:=fun b hb=>by
    rcases List.mem_cons.mp hb with rfl | q
    · exact .inl rfl
    · refine hideG fun zD zhD=>?_
      refine e1a2 (List.mem_map.mp q) fun pp hp zr87=>?_
      subst zr87
      refine e1a1 (lookup_of_mem hp) fun c' hc'=>?_
      refine zhD ?_
      clear zhD zD
      rw [hc']
      exact .inr ⟨_,hc'⟩
  have keepS : ∀ u : Shared,Keeps (hidS s (framesOf outer)) u→∀ b o,b ∉ mt→s.heap.get? b = some o→u.heap.get? b = some o:=fun u ku b o hb e=>Keeps.ext ku b o (hideAll_get _ e fun q=>hb (hmm b q))
  have exIL : ∀ b ∈ ad.IL 5,∃ ob,s₅.heap.get? b = some ob:=fun b hb=>by
    obtain ⟨j,hj,rfl | rfl⟩:=SoAd.mem_IL.mp hb
    · obtain ⟨_,_,dx,e,_⟩:=o5.nd j hj; exact ⟨_,e⟩
    · obtain ⟨_,⟨_,e⟩,_⟩:=o5.li j hj; exact ⟨_,e⟩
  have nIL : ∀ b ∈ ad.IL 5,(hidS s (framesOf outer)).heap.get? b = none∧b ∉ Nn :: (mtOf env ++ mt):=fun b hb=>by
    obtain ⟨j,hj,rfl | rfl⟩:=SoAd.mem_IL.mp hb
    · exact ⟨(hIL j hj).1.1,(hIL j hj).2.1⟩
    · exact ⟨(hIL j hj).1.2,(hIL j hj).2.2⟩
  have F₅':=F₅.remt (mt':=ad.IL 5 ++ Nn :: (mtOf env ++ mt)) (fun y d e=>by
    rcases lookup_put e with ⟨rfl,rfl⟩ | ⟨_,e⟩
    · exact .inl ⟨_,rfl⟩
    · cases e) (fun b hb=>List.mem_append.mpr (.inr (hm1 b hb))) (fun b hb=>by
    rcases List.mem_append.mp hb with q | q
    · exact exIL b q
    · exact F₅.mex b q)
  have Vs5:=k5.var _ _ (by decide) Vs4
  have r5 : Rp s₅.heap (ad.IL 5 ++ Nn :: (mtOf env ++ mt)) v1 (encS st):=r1.mono (keepS s₅ F₅.keep) fun b hb=>by
    rcases List.mem_append.mp hb with q | q
    · exact s0s b (nIL b q).1
    · rcases List.mem_cons.mp q with rfl | q
      · exact s0s _ (s0n _ nN)
      · rcases List.mem_append.mp q with q | q
        · exact s0s b (F.locs b (mtL b q)).2
        · exact .inl q
  have muE : ∀ b ∈ ad.mut 5,b = Nn ∨ b ∈ ad.IL 5:=fun b hb=>by
    rcases SoAd.mut_IL hb with q | q
    · exact .inl (q.trans eN)
    · exact .inr q
  have muL : ∀ b ∈ ad.mut 5,¬ Loc env b:=fun b hb=>by
    rcases muE b hb with rfl | q
    · exact NL
    · exact fun hl=>(nIL b q).2 (hm1 b hl)
  rw [← eS] at V5
  refine ex_adds (v1:=v1) (st:=st) N SK SM MA (hA1.le (by decide)) hi (by rw [kd]; kernel_rfl) (by rw [kd]; kernel_rfl) (by rw [kd]; kernel_rfl) F₅' V5 o5 (fun b hb=>?_) muL (fun b hb=>?_) Vs5 r5 hst hok ⟨rfl,trivial⟩ (fun a b c=>⟨rfl,trivial⟩) fun s₆ F₆ V6 o6 k6=>?_
  · rcases muE b hb with rfl | q
    · exact List.mem_append.mpr (.inr (.head _))
    · exact List.mem_append.mpr (.inl q)
  · rcases muE b hb with rfl | q
    · exact s0n _ nN
    · exact (nIL b q).1
  have hLm : ∀ b,b ∈ D :: (mtOf env ++ mt)→b = ad.D ∨ b ∈ ad.IL 5 ++ Nn :: (mtOf env ++ mt):=fun b hb=>by
    rcases List.mem_cons.mp hb with rfl | q
    · exact .inl eD.symm
    · exact .inr (List.mem_append.mpr (.inr (.tail _ q)))
  refine hideG fun zD zhD=>?_
  refine e2a1 o6.s fun p6 f6 os6=>?_
  refine zhD ?_
  clear zhD zD
  have gD6:=of_hideAll _ os6.d
  have LD : ∀ k,k < 5→ad.L k ≠ D:=fun k hk q=>by
    refine hideG fun zD zhD=>?_
    refine e1a2 (o6.li k hk) fun vs zs88 _=>?_
    refine e1a1 zs88 fun c e=>?_
    refine zhD ?_
    clear zhD zD
    rw [q,← eD,gD6] at e; simp [soDict,dictOf] at e
  have ID : ∀ k,k < 5→ad.I k ≠ D:=fun k hk q=>by
    refine hideG fun zD zhD=>?_
    obtain ⟨_,_,dx,e,_⟩:=o6.nd k hk
    refine zhD ?_
    clear zhD zD
    rw [q,← eD,gD6] at e; simp [soDict,dictOf,nodeObj] at e
  have nm3 : ∀ b,b ∈ ad.IL 5→b ≠ D→b ∉ D :: (mtOf env ++ mt):=fun b hb hne q=>by
    rcases List.mem_cons.mp q with q | q
    · exact hne q
    · exact (nIL b hb).2 (.tail _ q)
  have oB : SoB prog w ad x 5 (npS st) sn .none 0 0 (D :: (mtOf env ++ mt)) s₆.heap:=o6.toB (fun k _=>hsu k) (fun q=>by
    rw [eN] at q
    rcases List.mem_cons.mp q with q | q
    · exact DN' q.symm
    · exact Nmt q) (fun k hk=>nm3 _ (SoAd.mem_IL.mpr ⟨k,hk,.inr rfl⟩) (LD k hk)) hLm
  have hI3 : ∀ k,k < 5→ad.I k ∉ D :: (mtOf env ++ mt):=fun k hk=>nm3 _ (SoAd.mem_IL.mpr ⟨k,hk,.inl rfl⟩) (ID k hk)
  have F₆':=F₆.remt (mt':=D :: (mtOf env ++ mt)) (fun y d e=>by
    rcases lookup_put e with ⟨rfl,rfl⟩ | ⟨_,e⟩
    · exact .inl ⟨_,rfl⟩
    · cases e) (fun b hb=>.tail _ (hm b hb)) (fun b hb=>by
    rcases List.mem_cons.mp hb with rfl | q
    · exact ⟨_,eD ▸ gD6⟩
    · exact F₆.mex b (List.mem_append.mpr (.inr (.tail _ q))))
  have hfc : framesOf (env :: outer) = env.locals :: framesOf outer:=framesOf_cons hfe
  have locN : ∀ b,Loc env b→s.heap.get? b = none:=fun b hl=>by
    rcases hl with q | ⟨y,q⟩
    · rw [he] at q
      have : b = s.heap.objs.size:=q
      rw [this]; exact Heap.get?_none_of_le (Nat.le_refl _)
    · rw [he] at q
      have hc : (callEnvC fdRun s.heap.objs.size 292).cells = [(("held" : Str),s.heap.objs.size + 1)]:=by kernel_rfl
      rw [hc] at q
      have hq:=mem_of_lookup q
      rcases List.mem_cons.mp hq with hq | hq
      · cases hq; exact Heap.get?_none_of_le (Nat.le_succ _)
      · cases hq
  have nlF : ∀ b ∈ framesOf outer,¬ Loc env b:=fun b hb hl=>by
    refine hideG fun zD zhD=>?_
    refine e1a1 (exF b hb) fun ob e=>?_
    refine zhD ?_
    clear zhD zD
    rw [locN b hl] at e; cases e
  have S6 : FrS (framesOf outer) s.heap s₆.heap:=fun b hb ob e=>⟨ob.slots,by
    have hbm : b ∉ Nn :: (mtOf env ++ mt)→False:=fun q=>q (.tail _ (List.mem_append.mpr (.inr (hmm b hb))))
    refine k6.ext b ob (fun q=>?_) (nlF b hb) (k5.ext b ob (fun q=>?_) (nlF b hb) (k4.ext b ob (nlF b hb) (k3 b ob (Keeps.ext k2 b ob e))))
    · rcases muE b q with rfl | q
      · exact Nmt (List.mem_append.mpr (.inr (hmm _ hb)))
      · exact hbm (nIL b q).2
    · rcases List.mem_cons.mp q with q | q
      · rw [q] at hb; exact Nmt (List.mem_append.mpr (.inr (hmm _ hb)))
      · cases q⟩
  have B6 : Below s₆.heap (env :: outer):=⟨by rw [F₆'.knd]; decide,by
    refine hideG fun zD zhD=>?_
    refine e4a3 F₆'.lns fun m ob es ep eL hdL _=>?_
    refine zhD ?_
    clear zhD zD
    exact ⟨env.locals,ob,hfe,eL,fun vs q=>by rw [hdL] at q; cases q⟩,S6.below B⟩
  have G6 : Gl K mg mb (hideAll s₆.heap (ad.D :: framesOf (env :: outer))):=F₆'.gl0.ext fun b ob e=>hideAll_get _ (Keeps.ext F₆'.keep b ob e) fun q=>by
    rw [hfc,eD] at q
    rcases List.mem_cons.mp q with q | q
    · rw [q,s0n D nD] at e; cases e
    · rcases List.mem_cons.mp q with q | q
      · rw [q,(F₆'.locs _ (.inl rfl)).2] at e; cases e
      · rw [hidS_none q] at e; cases e
  have hfm : ∀ b ∈ ad.D :: framesOf (env :: outer),b ∈ D :: (mtOf env ++ mt):=fun b hb=>by
    rw [hfc,eD] at hb
    rcases List.mem_cons.mp hb with rfl | hb
    · exact .head _
    · rcases List.mem_cons.mp hb with rfl | hb
      · exact .tail _ (hm _ (.inl rfl))
      · exact .tail _ (List.mem_append.mpr (.inr (hmm b hb)))
  have hDf : ad.D ∉ framesOf (env :: outer):=fun q=>by
    rw [hfc,eD] at q
    rcases List.mem_cons.mp q with q | q
    · exact DL (.inl q)
    · exact Dmt (List.mem_append.mpr (.inr (hmm _ q)))
  have hW : wSeen sn [] (List.range 5) ≤ 3000:=by
    have h0:=hsl 0; have h1:=hsl 1; have h2:=hsl 2; have h3:=hsl 3; have h4:=hsl 4
    have e5 : List.range 5 = [0,1,2,3,4]:=by decide
    rw [e5]
    simp [wSeen]
    lia
  refine hideG fun zD zhD=>?_
  refine e0a2 SM.prep fun fPr zt90=>?_
  refine e1a1 zt90 fun docP hPr=>?_
  have hmf : ∀ b ∈ ad.mutB 5,b ∉ framesOf (env :: outer)∧∃ o,s₆.heap.get? b = some o:=fun b hb=>⟨fun q=>by
    rcases List.mem_cons.mp hb with e | hb
    · exact hDf (e ▸ q)
    · refine e1a2 (List.mem_map.mp hb) fun k hk e=>?_
      exact hI3 k (List.mem_range.mp hk) (hfm _ (.tail _ (e ▸ q))),oB.mutEx b hb⟩
  have after : ∀ (bb : Bool) u R,(bb = false∧Acyc sn 5 ∨ bb = true∧Cyc sn 5)→Fm K mg mb (hidS s (framesOf outer)) env (D :: (mtOf env ++ mt)) [("ringed",.bool bb),("held",.int held)] u→Var env u.heap "sorter" (.ref ad.S) →
      SoB prog w { ad with R:=R } x 5 (npS st) sn (.ref R) 0 0 (D :: (mtOf env ++ mt)) u.heap→Rl R (ready0 (npS st) 5) u.heap→s₆.heap.get? R = none→FrS (framesOf outer) s.heap u.heap →
      ∀ (E' : Value→Shared→Prop),wpAny (model prog w) A' (execs ((bodyOf (topAt 17)).drop 4) env) (fun fl s'=>Q (match fl with | .ret v=>v | _=>.none) s') E' u:=by
    intro bb u R hbb Fu Vu oU rU nR fU E'
    have exR : ∃ ob,u.heap.get? R = some ob:=let ⟨_,⟨_,e⟩,_⟩:=rU; ⟨_,e⟩
    have exI : ∀ k,k < 5→∃ ob,u.heap.get? (ad.I k) = some ob:=fun k hk=>let ⟨_,_,dx,e,_⟩:=oU.nd k hk; ⟨_,e⟩
    have memI : ∀ b,b ∈ (List.range 5).map ad.I ↔ ∃ k,k < 5∧b = ad.I k:=fun b=>⟨fun q=>by obtain ⟨k,hk,e⟩:=List.mem_map.mp q; exact ⟨k,List.mem_range.mp hk,e.symm⟩,fun ⟨k,hk,e⟩=>List.mem_map.mpr ⟨k,List.mem_range.mpr hk,e.symm⟩⟩
    have F4:=Fu.remt (mt':=R :: ((List.range 5).map ad.I ++ D :: (mtOf env ++ mt))) (fun y d e=>by
      rcases lookup_put e with ⟨rfl,rfl⟩ | ⟨_,e⟩
      · exact .inr ⟨_,rfl⟩
      · rcases lookup_put e with ⟨rfl,rfl⟩ | ⟨_,e⟩
        · exact .inl ⟨_,rfl⟩
        · cases e) (fun b hb=>.tail _ (List.mem_append.mpr (.inr (.tail _ (hm b hb))))) (fun b hb=>by
      rcases List.mem_cons.mp hb with rfl | hb
      · exact exR
      · rcases List.mem_append.mp hb with q | q
        · obtain ⟨k,hk,rfl⟩:=(memI b).mp q; exact exI k hk
        · exact Fu.mex b q)
    have o4 : SoB prog w { ad with R:=R } x 5 (npS st) sn (.ref R) 0 0 (R :: ((List.range 5).map ad.I ++ D :: (mtOf env ++ mt))) u.heap:=oU.grow fun b hb=>by
      rcases List.mem_cons.mp hb with rfl | hb
      · right; right
        refine e1a2 rU fun vR zs91 _=>?_
        refine e1a1 zs91 fun cR eR=>?_
        refine ⟨⟨fun q=>?_,fun q=>?_⟩,fun k hk q=>?_,fun ob e q=>?_⟩
        · have:=of_hideAll _ oU.s
          rw [← q,eR] at this; simp at this
        · refine e3a4 oU.dict fun oN es ep eN' gN' dN' _=>?_
          rw [← q,eR] at eN'; cases eN'; simp [Obj.ExactDict] at gN'
        · refine e1a2 (o6.li k hk) fun vs zs92 _=>?_
          refine e1a1 zs92 fun c e=>?_
          rw [show ad.L k = b from q.symm,nR] at e; cases e
        · rw [eR] at e; cases e; simp [emptyD] at q
      · rcases List.mem_append.mp hb with q | q
        · refine e1a2 ((memI b).mp q) fun k hk e=>?_
          exact .inr (.inl ⟨k,hk,e⟩)
        · exact .inl q
    have RL : ¬ Loc env R:=fun hl=>by
      refine e1a1 (F₆'.mex R (F₆'.locs R hl).1) fun ob e=>?_
      rw [nR] at e; cases e
    have hml4 : ∀ b,Loc env b→b ∈ R :: ((List.range 5).map ad.I ++ D :: (mtOf env ++ mt)):=fun b hb=>.tail _ (List.mem_append.mpr (.inr (.tail _ (hm b hb))))
    have muB : ∀ b ∈ ({ ad with R:=R } : SoAd).mutB 5,b = D ∨ ∃ k,k < 5∧b = ad.I k:=fun b hb=>by
      rcases List.mem_cons.mp hb with e | hb
      · exact .inl (e.trans eD)
      · exact .inr ((memI b).mp hb)
    have muBL : ∀ b ∈ ({ ad with R:=R } : SoAd).mutB 5,¬ Loc env b:=fun b hb=>by
      rcases muB b hb with rfl | ⟨k,hk,rfl⟩
      · exact DL
      · exact fun hl=>hI3 k hk (.tail _ (hm _ hl))
    refine ex_newlist F4 (.inl (by rw [kd]; kernel_rfl)) [("ringed",.bool bb),("held",.int held)] ⟨rfl,rfl,trivial⟩ rfl fun s₇ Lo nLo LoL F₇ Vo hLo k7=>?_
    have o7:=(o4.hide (mt':=Lo :: (R :: ((List.range 5).map ad.I ++ D :: (mtOf env ++ mt)))) (fun b hb=>by
      rcases List.mem_cons.mp hb with rfl | hb
      · exact .inr nLo
      · exact .inl hb)).kl k7 (fun b hb=>.tail _ (hml4 b hb)) muBL
    have r7 : Rl R (ready0 (npS st) 5) s₇.heap:=rU.at' fun ob e=>k7.ext _ ob RL e
    have V7:=k7.var _ _ (by decide) Vu
    have f7 : FrS (framesOf outer) s.heap s₇.heap:=fU.of' fun b ob hb e=>⟨ob.slots,k7.ext b ob (nlF b hb) e⟩
    have LoR : Lo ∉ R :: ({ ad with R:=R } : SoAd).mutB 5:=fun q=>by
      rcases List.mem_cons.mp q with q | q
      · obtain ⟨ob,e⟩:=exR; rw [← q,nLo] at e; cases e
      · obtain ⟨ob,e⟩:=oU.mutEx _ q; rw [nLo] at e; cases e
    refine ex_rounds (ad:={ ad with R:=R }) (r:=⟨npS st,ready0 (npS st) 5,[]⟩) (Lo:=Lo) (cl:=[("held",s.heap.objs.size + 1)]) N NT SK SM MD (hA1.le (by decide)) hi (by rw [kd]; kernel_rfl) (by rw [kd]; kernel_rfl) (by rw [kd]; kernel_rfl) (by rw [he]; kernel_rfl) (by decide +kernel) rfl (by decide +kernel) (fun ρ' hρ=>?_) (fun C=>by rw [he]; kernel_rfl) (fun C=>by rw [he]; kernel_rfl)
      F₇ V7 o7 r7 Vo ⟨[],hLo,.nil⟩ (fun b hb=>?_) (fun b hb=>?_) (fun b hb=>?_) LoR hsn (fun k=>by have:=hsl k; lia) hro hro2 (fun s₈ F₈ V8 r8 k8=>?_) (by rfl) (by rfl)
    · exact ⟨⟨hρ,.inl (by rw [kd]; kernel_rfl),.inl (by rw [he]; kernel_rfl),by rw [he]; kernel_rfl,by decide⟩,trivial⟩
    · rcases List.mem_cons.mp hb with rfl | hb
      · exact .head _
      · rcases List.mem_cons.mp hb with rfl | hb
        · exact .tail _ (.head _)
        · rcases muB b hb with rfl | ⟨k,hk,rfl⟩
          · exact .tail _ (.tail _ (List.mem_append.mpr (.inr (.head _))))
          · exact .tail _ (.tail _ (List.mem_append.mpr (.inl ((memI _).mpr ⟨k,hk,rfl⟩))))
    · rcases List.mem_cons.mp hb with rfl | hb
      · exact LoL
      · rcases List.mem_cons.mp hb with rfl | hb
        · exact RL
        · exact muBL b hb
    · rcases List.mem_cons.mp hb with rfl | hb
      · exact none_old F4.keep nLo
      · rcases List.mem_cons.mp hb with rfl | hb
        · exact none_old F₆'.keep nR
        · rcases muB b hb with rfl | ⟨k,hk,rfl⟩
          · exact s0n _ nD
          · exact (nIL _ (SoAd.mem_IL.mpr ⟨k,hk,.inl rfl⟩)).1
    · refine e1a2 r8 fun vo hlo hvo=>?_
      have Lo4 : Lo ∉ R :: ((List.range 5).map ad.I ++ D :: (mtOf env ++ mt)):=fun q=>by
        refine e1a1 (F4.mex Lo q) fun ob e=>?_
        rw [nLo] at e; cases e
      have F9:=F₈.unhide (x := "out") (a:=Lo) (ds:=(roundsF sn held ⟨npS st,ready0 (npS st) 5,[]⟩ 6).out.map fun k : Nat=>.int (k : Nat)) ⟨V8,vo,hlo,by
        have:=RpA.ofInts (h:=s₈.heap) (mt:=Lo :: (R :: ((List.range 5).map ad.I ++ D :: (mtOf env ++ mt)))) hvo
        rw [List.map_map] at this; exact this⟩ LoL Lo4 [("ringed",.bool bb),("held",.int held)] ⟨rfl,rfl,trivial⟩
      have f8 : FrS (framesOf outer) s.heap s₈.heap:=f7.of' fun b ob hb e=>⟨ob.slots,k8.ext b ob (fun q=>?_) (nlF b hb) e⟩
      · refine ex_ret F9 (pe_tuple _ _ (.cons (pe_name _ rfl) (fun _=>rfl) (.cons (pe_name _ rfl) (fun _=>rfl) .nil)) (by show 2 ≤ sizeLine; rw [sizeLine_eq]; lia)) fun v s₉ k9 r9=>?_
        exact h v s₉ bb hbb (hidS_kb (Keeps.trans' F9.keep k9)) (f8.of' fun b ob hb e=>⟨ob.slots,Keeps.ext k9 b ob e⟩) (r9.hide fun b hb=>.inl (.tail _ (List.mem_append.mpr (.inr (.tail _ (List.mem_append.mpr (.inr hb)))))))
      · have hbm:=hmm b hb
        rcases List.mem_cons.mp q with e1 | q
        · refine e1a1 (exF b hb) fun ob e=>?_
          exact Lo4 (e1 ▸ .tail _ (List.mem_append.mpr (.inr (.tail _ (List.mem_append.mpr (.inr hbm))))))
        · rcases List.mem_cons.mp q with e1 | q
          · refine e1a1 (F₆'.mex b (.tail _ (List.mem_append.mpr (.inr hbm)))) fun ob e=>?_
            rw [show b = R from e1,nR] at e; cases e
          · rcases muB b q with rfl | ⟨k,hk,rfl⟩
            · exact Dmt (List.mem_append.mpr (.inr hbm))
            · exact hI3 k hk (.tail _ (List.mem_append.mpr (.inr hbm)))
  have stored : ∀ (A'' : Around) (bb : Bool) u R (Q' : Unit→Shared→Prop) (E' : Value→Shared→Prop),Prepd prog w ad x 5 (npS st) sn 0 0 (D :: (mtOf env ++ mt)) (framesOf (env :: outer)) s₆ u R →
      (∀ u',Fm K mg mb (hidS s (framesOf outer)) env (D :: (mtOf env ++ mt)) [("ringed",.bool bb),("held",.int held)] u'→Var env u'.heap "sorter" (.ref ad.S) →
        SoB prog w { ad with R:=R } x 5 (npS st) sn (.ref R) 0 0 (D :: (mtOf env ++ mt)) u'.heap→Rl R (ready0 (npS st) 5) u'.heap→s₆.heap.get? R = none→FrS (framesOf outer) s.heap u'.heap→Q' () u') →
      wpAny (model prog w) A'' (storeName env "ringed" (.bool bb)) Q' E' u:=by
    intro A'' bb u R Q' E' P hq
    obtain ⟨Fu,hV⟩:=F₆'.prepd (fun y d e=>by
      rcases lookup_put e with ⟨rfl,rfl⟩ | ⟨_,e⟩
      · exact .inl ⟨_,rfl⟩
      · cases e) hfe nlF (fun b hb=>by
      rcases List.mem_cons.mp hb with rfl | hb
      · rw [eD]; exact s0n D nD
      · exact hidS_none hb) (by rw [eD]; exact DL) P
    have hRn : ¬ Loc env R:=fun hl=>by
      refine e1a1 (F₆'.mex R (F₆'.locs R hl).1) fun o e=>?_
      rw [P.nw] at e; cases e
    refine Fu.store (.inl (by rw [kd]; kernel_rfl)) (.bool bb) fun u' F' k'=>hq u' F' (k'.var _ _ (by decide) (hV _ _ V6)) (P.so.kl k' (fun b hb=>.tail _ (hm b hb)) fun b hb=>?_) (P.rl.at' fun ob e=>k'.ext _ ob hRn e) P.nw ?_
    · rcases List.mem_cons.mp hb with e | hb
      · rw [e,show ({ ad with R:=R } : SoAd).D = ad.D from rfl,eD]; exact DL
      · refine e1a2 (List.mem_map.mp hb) fun k hk e=>?_
        exact fun hl=>hI3 k (List.mem_range.mp hk) (by
          have : ad.I k = b:=e
          rw [this]; exact .tail _ (hm b hl))
    · have f1 : FrS (framesOf outer) s.heap u.heap:=S6.of' fun b ob hb e=>P.fs b (by rw [hfc]; exact .tail _ hb) ob e
      exact f1.of' fun b ob hb e=>⟨ob.slots,k'.ext b ob (nlF b hb) e⟩
  refine e2a1 oB.sos fun tp6 tf6 osB=>?_
  refine zhD ?_
  clear zhD zD
  refine wpAny_execs_cons (wpAny_Try_except (wpAny_execs_cons (wpAny_Assign_Name (wpAny_Compare1 (so_call SK F₆'.sv.gl.k V6 osB fPr hPr.1 rfl rfl sh_prep (evalArgs_nil3 ⟨rfl,F₆'.sv.gl.k,?_⟩) (by rfl)) (by with_unfolding_all rfl)) (by rfl))))
  refine prepare_call (mt:=D :: (mtOf env ++ mt)) (outer:=env :: outer) (n:=5) N NY SK SM C hPr (hA1.le (by decide)) G6 oB hI3 hfm F₆'.mex hDf hfr1 B6 hsn (by decide) hW (fun hac u R P=>?_) (fun hcy u R pf e t' h₆ P o9 hRp hpf hfl hup tk=>?_)
  · refine wpAny_Constant_none (isnot_none_gen (stored A' false u R _ _ P fun u' a1 a2 a3 a4 a5 a6=>wpAny_execs_nil (wpAny_execs_nil (after false u' R (.inl ⟨rfl,hac⟩) a1 a2 a3 a4 a5 a6 _))))
  · have drift : ∀ h',(hideAll u.heap (pf :: framesOf (env :: outer))).StaysIn h'→h₆.UpToSlots h'→Prepd prog w ad x 5 (npS st) sn 0 0 (D :: (mtOf env ++ mt)) (framesOf (env :: outer)) s₆ { u with heap:=h',toks:=tk } R :=
      fun h' k1 k2=>P.drift o9 hRp hpf k1 (hup.trans k2) (fun b hb=>B6.mem b hb) (fun b hb=>hfm b (.tail _ hb)) hmf
    have Fd : ∀ h' (k1 : (hideAll u.heap (pf :: framesOf (env :: outer))).StaysIn h') (k2 : h₆.UpToSlots h'),Fm K mg mb (hidS s (framesOf outer)) env (D :: (mtOf env ++ mt)) [("held",.int held)] { u with heap:=h',toks:=tk }:=fun h' k1 k2=>(F₆'.prepd (fun y d e=>by
      rcases lookup_put e with ⟨rfl,rfl⟩ | ⟨_,e⟩
      · exact .inl ⟨_,rfl⟩
      · cases e) hfe nlF (fun b hb=>by
      rcases List.mem_cons.mp hb with rfl | hb
      · rw [eD]; exact s0n D nD
      · exact hidS_none hb) (by rw [eD]; exact DL) (drift h' k1 k2)).1
    refine cyc_caught (s:={ u with heap:=h₆,toks:=tk }) C hfr1 hfe hfl (fun h' k1 k2=>⟨(Fd h' k1 k2).sv.gl.k,fun E'=>nm_g (Fd h' k1 k2).sv (by rw [kd]; kernel_rfl) C.bound ⟨rfl,rfl⟩⟩) fun h' k1 k2 E'=>?_
    exact wpAny_execs_cons (wpAny_Assign_Name (wpAny_Constant_bool (stored _ true _ R _ _ (drift h' k1 k2) fun u' a1 a2 a3 a4 a5 a6=>wpAny_execs_nil (after true u' R (.inr ⟨rfl,hcy⟩) a1 a2 a3 a4 a5 a6 _))) (by rfl))
end
end Mine
namespace Mine
open PySem PySem.W PyProof.Rows PySem.Calls
noncomputable def addSn (sn : Nat→List Nat) (k : Nat) (ps : List Nat) : Nat→List Nat:=ps.foldl (fun sn p=>updF sn p (sn p ++ [k])) sn
noncomputable def stepSn (sn : Nat→List Nat) (x : Step) : Nat→List Nat:=addSn sn x.2.1.toNat (List.replicate x.2.2.toNat x.1.toNat)
noncomputable def snS (st : List Step) : Nat→List Nat:=st.foldl stepSn fun _=>[]
noncomputable def castF (sn : Nat→List Nat) : Nat→List Int:=fun k=>(sn k).map fun j : Nat=>(j : Int)
theorem castF_add (k : Nat) : ∀ (ps : List Nat) (sn : Nat→List Nat),addSu (castF sn) k ps = castF (addSn sn k ps)
  | [],sn=>rfl
  | p :: ps,sn=>by
    have e : updF (castF sn) p (castF sn p ++ [(k : Int)]) = castF (updF sn p (sn p ++ [k])):=by
      funext j
      unfold castF updF
      split
      · rw [List.map_append]; rfl
      · rfl
    have h1 : addSu (castF sn) k (p :: ps) = addSu (updF (castF sn) p (castF sn p ++ [(k : Int)])) k ps:=rfl
    have h2 : addSn sn k (p :: ps) = addSn (updF sn p (sn p ++ [k])) k ps:=rfl
    rw [h1,h2,e,castF_add k ps]
theorem castF_steps : ∀ (st : List Step) (sn : Nat→List Nat),st.foldl stepSu (castF sn) = castF (st.foldl stepSn sn)
  | [],sn=>rfl
  | x :: st,sn=>by
    rw [List.foldl_cons,List.foldl_cons]
    have : stepSu (castF sn) x = castF (stepSn sn x):=castF_add _ _ _
    rw [this]
    exact castF_steps st (stepSn sn x)
theorem suS_sn (st : List Step) (k : Nat) : suS st k = (snS st k).map fun j : Nat=>(j : Int):=by
  have h : suS st = castF (snS st):=castF_steps st (fun _=>[])
  rw [h]; rfl
theorem snS_mem' : ∀ (st : List Step) (sn : Nat→List Nat) (k u : Nat),u ∈ st.foldl stepSn sn k ↔ u ∈ sn k ∨ ∃ x ∈ st,x.1.toNat = k∧x.2.1.toNat = u∧0 < x.2.2.toNat:=by
  have add : ∀ (v : Nat) (ps : List Nat) (sn : Nat→List Nat) (k u : Nat),u ∈ addSn sn v ps k ↔ u ∈ sn k ∨ (k ∈ ps∧u = v):=by
    intro v ps
    induction ps with
    | nil=>intro sn k u; simp [addSn]
    | cons p ps ih =>
      intro sn k u
      have h2 : addSn sn v (p :: ps) = addSn (updF sn p (sn p ++ [v])) v ps:=rfl
      rw [h2,ih]
      by_cases q : k = p
      · subst q
        rw [updF_at]
        constructor
        · rintro (h | ⟨_,h⟩)
          · rcases List.mem_append.mp h with h | h
            · exact .inl h
            · exact .inr ⟨.head _,List.mem_singleton.mp h⟩
          · exact .inr ⟨.head _,h⟩
        · rintro (h | ⟨_,h⟩)
          · exact .inl (List.mem_append.mpr (.inl h))
          · exact .inl (List.mem_append.mpr (.inr (List.mem_singleton.mpr h)))
      · rw [updF_ne _ _ q]
        simp [q]
  intro st
  induction st with
  | nil=>intro sn k u; simp
  | cons x st ih =>
    intro sn k u
    rw [List.foldl_cons,ih]
    unfold stepSn
    rw [add]
    constructor
    · rintro ((h | ⟨h1,h2⟩) | ⟨y,hy,h⟩)
      · exact .inl h
      · obtain ⟨h3,h4⟩:=List.mem_replicate.mp h1
        exact .inr ⟨x,.head _,h4.symm,h2.symm,by lia⟩
      · exact .inr ⟨y,.tail _ hy,h⟩
    · rintro (h | ⟨y,hy,h1,h2,h3⟩)
      · exact .inl (.inl h)
      · rcases List.mem_cons.mp hy with rfl | hy
        · exact .inl (.inr ⟨List.mem_replicate.mpr ⟨by lia,h1.symm⟩,h2.symm⟩)
        · exact .inr ⟨y,hy,h1,h2,h3⟩
theorem snS_mem (st : List Step) (k u : Nat) : u ∈ snS st k ↔ ∃ x ∈ st,x.1.toNat = k∧x.2.1.toNat = u∧0 < x.2.2.toNat:=by
  have:=snS_mem' st (fun _=>[]) k u
  simpa [snS] using this
theorem snS_len (st : List Step) (h : ∀ x ∈ st,StepOk x) (k : Nat) : (snS st k).length ≤ 2 * st.length:=by
  have h1:=suS_len st h k
  rw [suS_sn,List.length_map] at h1
  exact h1
end Mine
namespace Mine
open PySem PySem.W PyProof.Rows PySem.Calls
theorem decAll_cons (st : (Nat→Int) × List Nat) (a : Nat) (us : List Nat) : decAll st (a :: us) = decAll (decOne st a) us:=rfl
theorem decOne_np (st : (Nat→Int) × List Nat) (a u : Nat) : (decOne st a).1 u = st.1 u - if a = u then 1 else 0:=by
  show updF st.1 a (st.1 a - 1) u = _
  unfold updF
  by_cases q : u = a
  · subst q; simp
  · rw [if_neg q,if_neg (fun h=>q h.symm)]; lia
theorem decAll_np : ∀ (us : List Nat) (st : (Nat→Int) × List Nat) (u : Nat),(decAll st us).1 u = st.1 u - (us.count u : Int)
  | [],st,u=>by simp [decAll]
  | a :: us,st,u=>by
    rw [decAll_cons,decAll_np us,decOne_np,List.count_cons]
    by_cases q : a = u
    · subst q; simp; lia
    · simp [q]
theorem decAll_agree : ∀ (us : List Nat) (st st' : (Nat→Int) × List Nat),(∀ u ∈ us,st.1 u = st'.1 u)→st.2 = st'.2→(decAll st us).2 = (decAll st' us).2
  | [],_,_,_,h=>h
  | a :: us,st,st',h,e=>by
    rw [decAll_cons,decAll_cons]
    have ha:=h a (.head _)
    refine decAll_agree us _ _ (fun u hu=>?_) ?_
    · rw [decOne_np,decOne_np,h u (.tail _ hu)]
    · show (if st.1 a - 1 = 0 then st.2 ++ [a] else st.2) = (if st'.1 a - 1 = 0 then st'.2 ++ [a] else st'.2)
      rw [ha,e]
theorem decAll_mem : ∀ (us : List Nat) (st : (Nat→Int) × List Nat) (x : Nat),x ∈ (decAll st us).2 ↔ x ∈ st.2 ∨ (0 < st.1 x∧st.1 x ≤ (us.count x : Int))
  | [],st,x=>by simp [decAll]; omega
  | a :: us,st,x=>by
    rw [decAll_cons,decAll_mem us,decOne_np,List.count_cons]
    have h2 : x ∈ (decOne st a).2 ↔ x ∈ st.2 ∨ (st.1 a - 1 = 0∧x = a):=by
      show x ∈ (if st.1 a - 1 = 0 then st.2 ++ [a] else st.2) ↔ _
      split <;> simp [*]
    rw [h2]
    by_cases q : a = x
    · subst q
      by_cases m : a ∈ st.2
      · simp [m]
      · simp [m]; omega
    · have q' : ¬ x = a:=fun h=>q h.symm
      simp [q,q']
theorem doneAll_cons (sn : Nat→List Nat) (st : (Nat→Int) × List Nat) (k : Nat) (L : List Nat) : doneAll sn st (k :: L) = doneAll sn (doneOne sn st k) L:=rfl
theorem doneAll_run (sn : Nat→List Nat) : ∀ (L : List Nat) (st : (Nat→Int) × List Nat),(∀ j ∈ L,∀ k ∈ L,k ∉ sn j) →
    (doneAll sn st L).2 = (decAll st (L.flatMap sn)).2∧∀ u,(doneAll sn st L).1 u = if u ∈ L then -2 else st.1 u - ((L.flatMap sn).count u : Int)
  | [],st,_=>⟨rfl,fun u=>by simp [doneAll]⟩
  | k :: L,st,h=>by
    refine e0a2 (doneAll_run sn L (doneOne sn st k) fun j hj k' hk=>h j (.tail _ hj) k' (.tail _ hk)) fun i1 i2=>?_
    have hkk:=h k (.head _) k (.head _)
    have hnp : ∀ u,(doneOne sn st k).1 u = (if u = k then -2 else st.1 u) - ((sn k).count u : Int):=fun u=>by
      show (decAll (updF st.1 k (-2),st.2) (sn k)).1 u = _
      rw [decAll_np]; rfl
    have h2 : (doneOne sn st k).2 = (decAll st (sn k)).2:=decAll_agree _ _ _ (fun u hu=>updF_ne _ _ (fun q=>hkk (q ▸ hu))) rfl
    rw [doneAll_cons]
    refine ⟨?_,fun u=>?_⟩
    · rw [i1,List.flatMap_cons]
      show _ = ((sn k ++ L.flatMap sn).foldl decOne st).2
      rw [List.foldl_append]
      refine decAll_agree _ _ _ (fun u hu=>?_) h2
      rw [hnp]
      show _ = (decAll st (sn k)).1 u
      rw [decAll_np]
      have : u ≠ k:=fun q=>by
        refine e1a2 (List.mem_flatMap.mp hu) fun j hj hu=>?_
        exact h j (.tail _ hj) k (.head _) (q ▸ hu)
      rw [if_neg this]
    · rw [i2,hnp,List.flatMap_cons,List.count_append]
      by_cases q : u = k
      · subst q
        have c1 : (sn u).count u = 0:=List.count_eq_zero.mpr hkk
        have c2 : (L.flatMap sn).count u = 0:=List.count_eq_zero.mpr fun hu=>by
          refine e1a2 (List.mem_flatMap.mp hu) fun j hj hu=>?_
          exact h j (.tail _ hj) u (.head _) hu
        rw [c1,c2]; simp
      · simp only [List.mem_cons,q,false_or,if_false]
        split
        · rfl
        · lia
theorem doneAll_ok {sn : Nat→List Nat} {L : List Nat} {np : Nat→Int} (h : ∀ j ∈ L,∀ k ∈ L,k ∉ sn j) (hn : L.Nodup) (hp : ∀ k ∈ L,np k = -1) : DoneOk sn (np,[]) L:=fun i k hk=>by
  have hm : ∀ j ∈ L.take i,j ∈ L:=fun j hj=>List.mem_of_mem_take hj
  have hkL:=List.mem_of_getElem? hk
  refine e0a2 (doneAll_run sn (L.take i) (np,[]) fun j hj k hk=>h j (hm j hj) k (hm k hk)) fun _ e=>?_
  have hni : k ∉ L.take i:=fun q=>by
    obtain ⟨j,hj,e⟩:=List.getElem_of_mem q
    rw [List.getElem_take] at e
    rw [List.length_take] at hj
    refine e1a1 (List.getElem?_eq_some_iff.mp hk) fun hi e2=>?_
    have:=(List.getElem_inj hn).mp (e.trans e2.symm)
    lia
  rw [e,if_neg hni,List.count_eq_zero.mpr]
  · simp [hp k hkL]
  · intro hu
    refine e1a2 (List.mem_flatMap.mp hu) fun j hj hu=>?_
    exact h j (hm j hj) k hkL hu
noncomputable def decZ (lt : Nat→Nat) : (Nat→Int)→List Nat→List Nat
  | _,[]=>[]
  | np,k :: ks=>(if np (lt k) - 1 = 0 then [k] else []) ++ decZ lt (updF np (lt k) (np (lt k) - 1)) ks
theorem decZ_eq (lt : Nat→Nat) : ∀ (ks : List Nat) (st : (Nat→Int) × List Nat),(decAll st (ks.map lt)).2 = st.2 ++ (decZ lt st.1 ks).map lt
  | [],st=>by simp [decAll,decZ]
  | k :: ks,st=>by
    rw [List.map_cons,decAll_cons,decZ_eq lt ks]
    show (if st.1 (lt k) - 1 = 0 then st.2 ++ [lt k] else st.2) ++ _ = st.2 ++ ((if st.1 (lt k) - 1 = 0 then [k] else []) ++ decZ lt (updF st.1 (lt k) (st.1 (lt k) - 1)) ks).map lt
    split <;> simp [decOne]
theorem decZ_sub (lt : Nat→Nat) : ∀ (ks : List Nat) (np : Nat→Int),(decZ lt np ks).Sublist ks
  | [],_=>.slnil
  | k :: ks,np=>by
    unfold decZ
    split
    · exact (decZ_sub lt ks _).cons_cons k
    · exact (decZ_sub lt ks _).cons k
theorem decZ_pos (lt : Nat→Nat) : ∀ (ks : List Nat) (np : Nat→Int) (z : Nat),z ∈ decZ lt np ks→0 < np (lt z)
  | [],_,z,h=>by cases h
  | k :: ks,np,z,h=>by
    unfold decZ at h
    rcases List.mem_append.mp h with h | h
    · split at h
      · rw [List.mem_singleton.mp h]; lia
      · cases h
    · have:=decZ_pos lt ks _ z h
      unfold updF at this
      split at this
      · rename_i q; rw [q]; lia
      · exact this
theorem decZ_nodup (lt : Nat→Nat) : ∀ (ks : List Nat) (np : Nat→Int),((decZ lt np ks).map lt).Nodup
  | [],_=>List.nodup_nil
  | k :: ks,np=>by
    unfold decZ
    split
    · rename_i q
      show ((k :: _).map lt).Nodup
      rw [List.map_cons,List.nodup_cons]
      refine ⟨fun hm=>?_,decZ_nodup lt ks _⟩
      obtain ⟨z,hz,e⟩:=List.mem_map.mp hm
      have:=decZ_pos lt ks _ z hz
      rw [e,updF_at] at this
      omega
    · exact decZ_nodup lt ks _
theorem decZ_max (lt : Nat→Nat) (R : Nat→Nat→Prop) (hr : ∀ k,R k k) : ∀ (ks : List Nat) (np : Nat→Int),ks.Pairwise R→∀ z ∈ decZ lt np ks,np (lt z) = ((ks.map lt).count (lt z) : Int)→∀ k ∈ ks,lt k = lt z→R k z
  | [],_,_,z,h,_,_,_,_=>by cases h
  | k :: ks,np,hp,z,h,hc,k',hk',hl=>by
    rw [List.pairwise_cons] at hp
    unfold decZ at h
    rw [List.map_cons,List.count_cons] at hc
    rcases List.mem_append.mp h with h | h
    · split at h
      · obtain rfl:=List.mem_singleton.mp h
        have h0 : (ks.map lt).count (lt z) = 0:=by
          simp at hc
          lia
        rcases List.mem_cons.mp hk' with rfl | hk'
        · exact hr _
        · exact absurd (List.mem_map.mpr ⟨k',hk',hl⟩) (List.count_eq_zero.mp h0)
      · cases h
    · rcases List.mem_cons.mp hk' with rfl | hk'
      · exact hp.1 z ((decZ_sub lt ks _).subset h)
      · refine decZ_max lt R hr ks _ hp.2 z h ?_ k' hk' hl
        unfold updF
        by_cases q : lt z = lt k
        · rw [if_pos q]
          rw [if_pos (by simp [q])] at hc
          rw [q] at hc ⊢
          lia
        · rw [if_neg q]
          rw [if_neg (by simp; exact fun h=>q h.symm)] at hc
          lia
noncomputable def tot (st : List Step) (p : Step→Bool) : Int:=((st.filter p).map fun x=>x.2.2).sum
theorem tot_nil (p : Step→Bool) : tot [] p = 0:=rfl
theorem tot_cons (x : Step) (st : List Step) (p : Step→Bool) : tot (x :: st) p = (if p x then x.2.2 else 0) + tot st p:=by
  unfold tot
  rw [List.filter_cons]
  split <;> simp
theorem tot_split {p q r : Step→Bool} : ∀ {st : List Step},(∀ x ∈ st,p x = (q x || r x))→(∀ x ∈ st,¬ (q x = true∧r x = true))→tot st p = tot st q + tot st r
  | [],_,_=>rfl
  | x :: st,h1,h2=>by
    rw [tot_cons,tot_cons,tot_cons,tot_split (fun y hy=>h1 y (.tail _ hy)) fun y hy=>h2 y (.tail _ hy),h1 x (.head _)]
    have:=h2 x (.head _)
    cases hq : q x <;> cases hr : r x <;> simp [hq,hr] at this ⊢ <;> lia
theorem tot_congr {p q : Step→Bool} {st : List Step} (h : ∀ x ∈ st,p x = q x) : tot st p = tot st q:=by
  unfold tot
  rw [List.filter_congr h]
theorem tot_nonneg {p : Step→Bool} : ∀ {st : List Step},(∀ x ∈ st,0 < x.2.2)→0 ≤ tot st p
  | [],_=>Int.le_refl _
  | x :: st,h=>by
    rw [tot_cons]
    have:=tot_nonneg (p:=p) fun y hy=>h y (.tail _ hy)
    have:=h x (.head _)
    split <;> lia
theorem tot_zero {p : Step→Bool} : ∀ {st : List Step},(∀ x ∈ st,0 < x.2.2)→(tot st p = 0 ↔ ∀ x ∈ st,p x = false)
  | [],_=>by simp [tot_nil]
  | x :: st,h=>by
    rw [tot_cons]
    have h1:=tot_nonneg (p:=p) fun y hy=>h y (.tail _ hy)
    have h2:=h x (.head _)
    have ih:=tot_zero (p:=p) fun y hy=>h y (.tail _ hy)
    constructor
    · intro e
      cases hp : p x with
      | true=>rw [hp] at e; simp at e; omega
      | false =>
        rw [hp] at e
        intro y hy
        rcases List.mem_cons.mp hy with rfl | hy
        · exact hp
        · exact ih.mp (by simpa using e) y hy
    · intro e
      rw [e x (.head _),ih.mpr fun y hy=>e y (.tail _ hy)]; rfl
theorem addSn_at (k : Nat) : ∀ (ps : List Nat) (sn : Nat→List Nat) (j : Nat),addSn sn k ps j = sn j ++ List.replicate (ps.count j) k
  | [],sn,j=>by simp [addSn]
  | p :: ps,sn,j=>by
    have h2 : addSn sn k (p :: ps) = addSn (updF sn p (sn p ++ [k])) k ps:=rfl
    rw [h2,addSn_at k ps,List.count_cons]
    by_cases q : j = p
    · subst q
      rw [updF_at]
      simp [List.replicate_succ]
    · have q' : ¬ p = j:=fun h=>q h.symm
      rw [updF_ne _ _ q]
      simp [q']
theorem snS_eq' : ∀ (st : List Step) (sn : Nat→List Nat) (j : Nat),st.foldl stepSn sn j = sn j ++ (st.filter fun x=>x.1.toNat == j).flatMap fun x=>List.replicate x.2.2.toNat x.2.1.toNat
  | [],sn,j=>by simp
  | x :: st,sn,j=>by
    rw [List.foldl_cons,snS_eq' st]
    unfold stepSn
    rw [addSn_at,List.count_replicate,List.filter_cons]
    by_cases q : x.1.toNat = j
    · simp [q]
    · simp [q]
theorem snS_eq (st : List Step) (j : Nat) : snS st j = (st.filter fun x=>x.1.toNat == j).flatMap fun x=>List.replicate x.2.2.toNat x.2.1.toNat:=by
  have:=snS_eq' st (fun _=>[]) j
  simpa [snS] using this
theorem npS_eq' : ∀ (st : List Step),(∀ x ∈ st,0 < x.2.2)→∀ (np : Nat→Int) (u : Nat),st.foldl stepNp np u = np u + tot st fun x=>x.2.1.toNat == u
  | [],_,np,u=>by simp [tot_nil]
  | x :: st,h,np,u=>by
    rw [List.foldl_cons,npS_eq' st fun y hy=>h y (.tail _ hy),tot_cons]
    unfold stepNp updF
    have:=h x (.head _)
    rw [List.length_replicate]
    by_cases q : u = x.2.1.toNat
    · rw [if_pos q,if_pos (by simp [q]),q]; lia
    · rw [if_neg q,if_neg (by simp; exact fun h=>q h.symm)]; lia
theorem npS_eq {st : List Step} (h : ∀ x ∈ st,0 < x.2.2) (u : Nat) : npS st u = tot st fun x=>x.2.1.toNat == u:=by
  have:=npS_eq' st h (fun _=>0) u
  simpa [npS] using this
theorem count_sn {u j : Nat} : ∀ {st : List Step},(∀ x ∈ st,0 < x.2.2)→((snS st j).count u : Int) = tot st fun x=>x.1.toNat == j && x.2.1.toNat == u
  | [],_=>by simp [snS,tot_nil]
  | x :: st,h=>by
    have ih:=count_sn (u:=u) (j:=j) fun y hy=>h y (.tail _ hy)
    rw [snS_eq] at ih ⊢
    have:=h x (.head _)
    rw [tot_cons,← ih,List.filter_cons]
    by_cases q : x.1.toNat = j
    · simp only [q,beq_self_eq_true,if_true,Bool.true_and,List.flatMap_cons,List.count_append,List.count_replicate]
      split <;> simp <;> lia
    · simp [q]
theorem count_flat {u : Nat} {st : List Step} (h : ∀ x ∈ st,0 < x.2.2) : ∀ {L : List Nat},L.Nodup→((L.flatMap (snS st)).count u : Int) = tot st fun x=>decide (x.1.toNat ∈ L) && x.2.1.toNat == u
  | [],_=>by simp [tot,List.filter_eq_nil_iff.mpr]
  | j :: L,hn=>by
    rw [List.nodup_cons] at hn
    rw [List.flatMap_cons,List.count_append,Int.natCast_add,count_sn h,count_flat h hn.2]
    refine (tot_split (fun x _=>?_) fun x _ ⟨h1,h2⟩=>?_).symm
    · by_cases a : x.1.toNat = j <;> by_cases b : x.1.toNat ∈ L <;> simp [a,b]
    · simp at h1 h2
      exact hn.1 (h1.1 ▸ h2.1)
end Mine
namespace Mine
open PySem PySem.W PyProof.Rows PySem.Calls
theorem gtP_iff (a b : Int × Int) : gtP a b = true ↔ b.1 < a.1 ∨ (a.1 = b.1∧b.2 < a.2):=by
  unfold gtP
  split <;> simp <;> lia
theorem gtP_no (a b : Int × Int) : gtP a b = false ↔ a.1 < b.1 ∨ (a.1 = b.1∧a.2 ≤ b.2):=by
  unfold gtP
  split <;> simp <;> lia
theorem maxP_fold : ∀ (ps : List (Int × Int)) (m : Int × Int),ps.foldl (fun m q=>if gtP q m then q else m) m ∈ m :: ps∧∀ q ∈ m :: ps,gtP q (ps.foldl (fun m q=>if gtP q m then q else m) m) = false
  | [],m=>⟨.head _,fun q hq=>by
    rcases List.mem_cons.mp hq with rfl | hq
    · rw [gtP_no]; simp
    · cases hq⟩
  | p :: ps,m=>by
    rw [List.foldl_cons]
    refine e0a2 (maxP_fold ps (if gtP p m then p else m)) fun i1 i2=>?_
    refine ⟨?_,fun q hq=>?_⟩
    · rcases List.mem_cons.mp i1 with h | h
      · rw [h]
        split
        · exact .tail _ (.head _)
        · exact .head _
      · exact .tail _ (.tail _ h)
    · have hm:=i2 _ (.head _)
      revert i2
      revert hm
      refine genA (ps.foldl (fun m q=>if gtP q m then q else m) (if gtP p m then p else m)) fun r hm i2=>?_
      have two : gtP m r = false∧gtP p r = false:=by
        by_cases g : gtP p m = true
        · rw [if_pos g] at hm
          rw [gtP_iff] at g
          rw [gtP_no] at hm ⊢
          exact ⟨by lia,by rw [gtP_no]; exact hm⟩
        · rw [if_neg g] at hm
          have g' : gtP p m = false:=by simpa using g
          rw [gtP_no] at g' hm
          rw [gtP_no,gtP_no]
          lia
      rcases List.mem_cons.mp hq with rfl | hq
      · exact two.1
      · rcases List.mem_cons.mp hq with rfl | hq
        · exact two.2
        · exact i2 q (.tail _ hq)
theorem maxP_eq {ps : List (Int × Int)} {m : Int × Int} (hm : m ∈ ps) (h : ∀ q ∈ ps,gtP q m = false) : maxP ps = m:=by
  cases ps with
  | nil=>cases hm
  | cons p ps =>
    obtain ⟨i1,i2⟩:=maxP_fold ps p
    have a:=h _ i1
    have b:=i2 _ hm
    show ps.foldl (fun m q=>if gtP q m then q else m) p = m
    generalize ps.foldl (fun m q=>if gtP q m then q else m) p = r at a b ⊢
    rw [gtP_no] at a b
    obtain ⟨r1,r2⟩:=r
    obtain ⟨m1,m2⟩:=m
    simp only [Prod.mk.injEq] at a b ⊢
    lia
theorem needsF_iff {st : List Step} {n k : Int} : k ∈ needsF st n ↔ ∃ i,i < st.length∧k = (i : Nat)∧(stAt st k).2.1 = n:=by
  unfold needsF
  rw [List.mem_filter,List.mem_map]
  constructor
  · rintro ⟨⟨i,hi,rfl⟩,h⟩
    exact ⟨i,List.mem_range.mp hi,rfl,by simpa using h⟩
  · rintro ⟨i,hi,rfl,h⟩
    exact ⟨⟨i,List.mem_range.mpr hi,rfl⟩,by simpa using h⟩
theorem stAt_get {st : List Step} {i : Nat} (h : i < st.length) : stAt st (i : Nat) = st[i]:=by simp [stAt,h]
theorem stAt_mem {st : List Step} {i : Nat} (h : i < st.length) : stAt st (i : Nat) ∈ st:=by rw [stAt_get h]; exact List.getElem_mem h
theorem isNew_iff {st : List Step} {row : List Int} {n : Int} : isNew st row n = true ↔ n ∉ row∧∀ x ∈ st,x.2.1 = n→x.1 ∈ row:=by
  unfold isNew aheadF
  rw [Bool.and_eq_true,List.length_map,beq_iff_eq,Int.natCast_inj,List.length_filter_eq_length_iff]
  simp only [Bool.not_eq_true',decide_eq_false_iff_not,decide_eq_true_eq]
  refine and_congr_right fun _=>⟨fun h x hx e=>?_,fun h k hk=>?_⟩
  · obtain ⟨i,hi,rfl⟩:=List.getElem_of_mem hx
    have:=h (i : Nat) (needsF_iff.mpr ⟨i,hi,rfl,by rw [stAt_get hi]; exact e⟩)
    rwa [stAt_get hi] at this
  · refine e1a3 (needsF_iff.mp hk) fun i hi zr30 e=>?_
    subst zr30
    exact h _ (stAt_mem hi) e
noncomputable def lay (st : List Step) : Nat→List Int
  | 0=>rowInit st
  | i + 1=>(sortF (foundF st (rowN st i) R5)).map (·.2)
noncomputable def prv (st : List Step) : Nat→List Int
  | 0=>[]
  | i + 1=>rowN st i
theorem rowN_lay (st : List Step) : ∀ i,rowN st i = prv st i ++ lay st i
  | 0=>rfl
  | _ + 1=>rfl
theorem lay_perm (st : List Step) (i : Nat) : (lay st (i + 1)).Perm (R5.filter (isNew st (rowN st i))):=by
  have h:=(List.mergeSort_perm (foundF st (rowN st i) R5) leF).map (·.2)
  rw [foundF_names] at h
  exact h
theorem mem_lay {st : List Step} {n : Int} : ∀ {i : Nat},n ∈ lay st i ↔ n ∈ R5∧n ∉ prv st i∧∀ x ∈ st,x.2.1 = n→x.1 ∈ prv st i
  | 0=>by
    show n ∈ rowInit st ↔ _
    unfold rowInit lates
    rw [List.mem_filter]
    refine and_congr_right fun _=>?_
    simp only [Bool.not_eq_true',decide_eq_false_iff_not,List.mem_map,not_exists,not_and]
    exact ⟨fun h=>⟨List.not_mem_nil,fun x hx e=>absurd e (h x hx)⟩,fun h x hx e=>absurd (h.2 x hx e) List.not_mem_nil⟩
  | i + 1=>by
    rw [(lay_perm st i).mem_iff,List.mem_filter,isNew_iff]
    exact Iff.rfl
theorem lay_nodup (st : List Step) : ∀ i,(lay st i).Nodup
  | 0=>List.Nodup.sublist List.filter_sublist R5_nodup
  | i + 1=>List.Nodup.perm (List.Nodup.sublist List.filter_sublist R5_nodup) (lay_perm st i).symm
theorem rowN_nodup (st : List Step) : ∀ i,(rowN st i).Nodup
  | 0=>lay_nodup st 0
  | i + 1=>by
    rw [rowN_lay,List.nodup_append]
    refine ⟨rowN_nodup st i,lay_nodup st (i + 1),fun a ha b hb e=>?_⟩
    exact (mem_lay.mp (e ▸ hb)).2.1 ha
theorem rowN_R5 {st : List Step} {n : Int} : ∀ {i : Nat},n ∈ rowN st i→n ∈ R5
  | 0,h=>(mem_lay (i:=0).mp h).1
  | i + 1,h=>by
    rw [rowN_lay] at h
    rcases List.mem_append.mp h with h | h
    · exact rowN_R5 (i:=i) h
    · exact (mem_lay.mp h).1
theorem prv_row {st : List Step} {n : Int} {i : Nat} (h : n ∈ prv st i) : n ∈ rowN st i:=by
  rw [rowN_lay]; exact List.mem_append.mpr (.inl h)
theorem lay_stop {st : List Step} {i : Nat} (h : lay st i = []) : lay st (i + 1) = []:=by
  have e : prv st (i + 1) = prv st i:=by
    show rowN st i = _
    rw [rowN_lay,h,List.append_nil]
  refine List.eq_nil_iff_forall_not_mem.mpr fun n hn=>?_
  rw [mem_lay,e,← mem_lay,h] at hn
  cases hn
theorem row_long {st : List Step} : ∀ i,lay st i ≠ []→i + 1 ≤ (rowN st i).length
  | 0,h=>by
    have : (lay st 0).length ≠ 0:=fun q=>h (List.length_eq_zero_iff.mp q)
    show 1 ≤ (lay st 0).length
    lia
  | i + 1,h=>by
    have:=row_long (st:=st) i fun q=>h (lay_stop q)
    have : (lay st (i + 1)).length ≠ 0:=fun q=>h (List.length_eq_zero_iff.mp q)
    rw [rowN_lay,List.length_append]
    show _ ≤ (rowN st i).length + _
    lia
theorem row_le5 (st : List Step) (i : Nat) : (rowN st i).length ≤ 5:=(rowN_nodup st i).length_le_of_subset (l₂:=R5) fun _ h=>rowN_R5 h
theorem lay5 (st : List Step) : lay st 5 = []:=by
  by_cases h : lay st 5 = []
  · exact h
  · have:=row_long 5 h
    have:=row_le5 st 5
    lia
theorem row5 (st : List Step) : rowN st 5 = rowN st 4:=by
  rw [rowN_lay st 5,lay5,List.append_nil]; rfl
theorem row_needs {st : List Step} {n : Int} : ∀ {i : Nat},n ∈ rowN st i→∀ x ∈ st,x.2.1 = n→(rowN st i).idxOf x.1 < (rowN st i).idxOf n
  | 0,h,x,hx,e=>absurd ((mem_lay (i:=0).mp h).2.2 x hx e) List.not_mem_nil
  | i + 1,h,x,hx,e=>by
    rw [rowN_lay] at h ⊢
    show ((rowN st i) ++ _).idxOf _ < ((rowN st i) ++ _).idxOf _
    rw [List.idxOf_append,List.idxOf_append]
    by_cases q : n ∈ rowN st i
    · have:=row_needs q x hx e
      have hlt:=List.idxOf_lt_length_iff.mpr q
      have : x.1 ∈ rowN st i:=List.idxOf_lt_length_iff.mp (by lia)
      rw [if_pos this,if_pos q]; assumption
    · rcases List.mem_append.mp h with h | h
      · exact absurd h q
      · have : x.1 ∈ rowN st i:=(mem_lay.mp h).2.2 x hx e
        rw [if_pos this,if_neg q]
        have:=List.idxOf_lt_length_iff.mpr this
        show List.idxOf x.1 (rowN st i) < _
        lia
theorem row_out {st : List Step} {n : Int} (h5 : n ∈ R5) (h : n ∉ rowN st 4) : ∃ x ∈ st,x.2.1 = n∧x.1 ∉ rowN st 4:=by
  have h1 : ¬ n ∈ lay st 5:=by rw [lay5]; exact List.not_mem_nil
  rw [mem_lay] at h1
  refine Classical.byContradiction fun q=>h1 ⟨h5,h,fun x hx e=>?_⟩
  exact Classical.byContradiction fun q2=>q ⟨x,hx,e,q2⟩
theorem mem_behind1 {st : List Step} {held : Int} {bh : List Int} {n : Int} : n ∈ behind1 st held bh ↔ ∃ x ∈ st,(x.1 = held ∨ x.1 ∈ bh)∧x.2.1 = n:=by
  unfold behind1
  simp only [List.mem_map,List.mem_filter,Bool.or_eq_true,beq_iff_eq,decide_eq_true_eq]
  exact ⟨fun ⟨x,⟨h1,h2⟩,h3⟩=>⟨x,h1,h2,h3⟩,fun ⟨x,h1,h2,h3⟩=>⟨x,⟨h1,h2⟩,h3⟩⟩
theorem behind1_mono {st : List Step} {held : Int} {a b : List Int} (h : ∀ n ∈ a,n ∈ b) : ∀ n ∈ behind1 st held a,n ∈ behind1 st held b:=fun n hn=>by
  obtain ⟨x,h1,h2,h3⟩:=mem_behind1.mp hn
  exact mem_behind1.mpr ⟨x,h1,h2.imp id (h _),h3⟩
theorem behind_up (st : List Step) (held : Int) : ∀ i,∀ n ∈ behindN st held i,n ∈ behindN st held (i + 1)
  | 0,_,h=>by cases h
  | i + 1,n,h=>behind1_mono (behind_up st held i) n h
theorem behind_stop {st : List Step} {held : Int} {i : Nat} (h : ∀ n ∈ behindN st held (i + 1),n ∈ behindN st held i) : ∀ j,i ≤ j→∀ n ∈ behindN st held (j + 1),n ∈ behindN st held j:=by
  intro j hj
  induction hj with
  | refl=>exact h
  | step _ ih=>exact behind1_mono ih
theorem R5_iff {n : Int} : n ∈ R5 ↔ 0 ≤ n∧n < 5:=by
  unfold R5
  rw [List.mem_map]
  constructor
  · intro zi4
    obtain ⟨i,hi,rfl⟩:=zi4
    have:=List.mem_range.mp hi
    lia
  · intro zi5
    obtain ⟨h1,h2⟩:=zi5
    exact ⟨n.toNat,List.mem_range.mpr (by lia),by lia⟩
theorem behind_R5 {st : List Step} {held : Int} (hok : ∀ x ∈ st,StepOk x) : ∀ {i : Nat},∀ n ∈ behindN st held i,n ∈ R5
  | 0,_,h=>by cases h
  | i + 1,n,h=>by
    obtain ⟨x,h1,_,rfl⟩:=mem_behind1.mp h
    exact R5_iff.mpr (hok x h1).2.1
theorem behind_long {st : List Step} {held : Int} : ∀ i,(∀ j,j < i→¬ ∀ n ∈ behindN st held (j + 1),n ∈ behindN st held j)→∃ l : List Int,l.Nodup∧l.length = i∧∀ n ∈ l,n ∈ behindN st held i
  | 0,_=>⟨[],List.nodup_nil,rfl,fun _ h=>by cases h⟩
  | i + 1,h=>by
    refine e1a3 (behind_long i fun j hj=>h j (by lia)) fun l h1 h2 h3=>?_
    have:=h i (by lia)
    simp only [Classical.not_forall] at this
    obtain ⟨n,hn,hq⟩:=this
    refine ⟨n :: l,List.nodup_cons.mpr ⟨fun q=>hq (h3 n q),h1⟩,by rw [List.length_cons,h2],fun m hm=>?_⟩
    rcases List.mem_cons.mp hm with rfl | hm
    · exact hn
    · exact behind_up st held i m (h3 m hm)
theorem behind_closed {st : List Step} {held : Int} (hok : ∀ x ∈ st,StepOk x) : ∀ n ∈ behindN st held 6,n ∈ behindN st held 5:=by
  refine Classical.byContradiction fun q=>?_
  obtain ⟨l,h1,h2,h3⟩:=behind_long (st:=st) (held:=held) 6 fun j hj h=>q (behind_stop h 5 (by lia))
  have:=h1.length_le_of_subset (l₂:=R5) fun n hn=>behind_R5 hok n (h3 n hn)
  have : R5.length = 5:=rfl
  lia
theorem behind_in {st : List Step} {held : Int} (hok : ∀ x ∈ st,StepOk x) {x : Step} (hx : x ∈ st) (h : x.1 = held ∨ x.1 ∈ behindN st held 5) : x.2.1 ∈ behindN st held 5 :=
  behind_closed hok _ (mem_behind1.mpr ⟨x,hx,h,rfl⟩)
theorem behind_of {st : List Step} {held : Int} {n : Int} (h : n ∈ behindN st held 5) : ∃ x ∈ st,x.2.1 = n∧(x.1 = held ∨ x.1 ∈ behindN st held 5):=by
  obtain ⟨x,h1,h2,h3⟩:=mem_behind1.mp h
  exact ⟨x,h1,h3,h2.imp id (behind_up st held 4 _)⟩
theorem mem_snS' {st : List Step} (hok : ∀ x ∈ st,StepOk x∧0 < x.2.2) {k u : Nat} : u ∈ snS st k ↔ ∃ x ∈ st,x.1 = (k : Int)∧x.2.1 = (u : Int):=by
  rw [snS_mem]
  constructor
  · rintro zhX
    refine hideG fun zD zhD=>?_
    obtain ⟨x,hx,h1,h2,_⟩:=zhX
    obtain ⟨⟨a,b,_⟩,_⟩:=hok x hx
    refine zhD ?_
    clear zhD zD
    exact ⟨x,hx,by lia,by lia⟩
  · rintro zhX
    refine hideG fun zD zhD=>?_
    obtain ⟨x,hx,h1,h2⟩:=zhX
    obtain ⟨_,_⟩:=hok x hx
    refine zhD ?_
    clear zhD zD
    exact ⟨x,hx,by lia,by lia,by lia⟩
theorem row_all {st : List Step} (h : (rowN st 4).length = 5) {n : Int} (hn : n ∈ R5) : n ∈ rowN st 4:=by
  refine Classical.byContradiction fun q=>?_
  have:=(List.nodup_cons.mpr ⟨q,rowN_nodup st 4⟩).length_le_of_subset (l₂:=R5) fun m hm=>by
    rcases List.mem_cons.mp hm with rfl | hm
    · exact hn
    · exact rowN_R5 hm
  have : R5.length = 5:=rfl
  rw [List.length_cons] at *
  lia
theorem exists_min (f : Nat→Nat) : ∀ (S : List Nat),S ≠ []→∃ x ∈ S,∀ y ∈ S,f x ≤ f y
  | [],h=>absurd rfl h
  | [a],_=>⟨a,.head _,fun y hy=>by rw [List.mem_singleton.mp hy]; exact Nat.le_refl _⟩
  | a :: b :: S,_=>by
    refine e1a2 (exists_min f (b :: S) (by simp)) fun x hx h=>?_
    by_cases q : f a ≤ f x
    · refine ⟨a,.head _,fun y hy=>?_⟩
      rcases List.mem_cons.mp hy with rfl | hy
      · exact Nat.le_refl _
      · exact Nat.le_trans q (h y hy)
    · refine ⟨x,.tail _ hx,fun y hy=>?_⟩
      rcases List.mem_cons.mp hy with rfl | hy
      · lia
      · exact h y hy
theorem cyc_short {st : List Step} (hok : ∀ x ∈ st,StepOk x∧0 < x.2.2) (h : Cyc (snS st) 5) : (rowN st 4).length < 5:=by
  refine e1a3 h fun S hne hlt hS=>?_
  refine Classical.byContradiction fun q=>?_
  have h5 : (rowN st 4).length = 5:=by have:=row_le5 st 4; lia
  refine e1a2 (exists_min (fun k=>(rowN st 4).idxOf (k : Int)) S hne) fun x hx hm=>?_
  refine e1a2 (hS x hx) fun u hu hxu=>?_
  refine e1a3 ((mem_snS' hok).mp hxu) fun y hy e1 e2=>?_
  have:=row_needs (row_all h5 (R5_iff.mpr (by have:=hlt x hx; lia) : (x : Int) ∈ R5)) y hy e2
  have:=hm u hu
  rw [e1] at *
  lia
theorem acyc_long {st : List Step} (hok : ∀ x ∈ st,StepOk x∧0 < x.2.2) (h : Acyc (snS st) 5) : (rowN st 4).length = 5:=by
  refine e1a2 h fun fin hall hfin=>?_
  have key : ∀ d k : Nat,fin.length - fin.idxOf k ≤ d→k < 5→(k : Int) ∈ rowN st 4:=by
    intro d
    induction d with
    | zero =>
      intro k hd hk
      have:=List.idxOf_lt_length_iff.mpr (hall k hk)
      lia
    | succ d ih =>
      intro k hd hk
      refine Classical.byContradiction fun q=>?_
      refine e1a3 (row_out (R5_iff.mpr (by lia) : (k : Int) ∈ R5) q) fun x hx e1 e2=>?_
      refine e0a2 (hok x hx) fun zs31 _=>?_
      refine e0a2 zs31 fun zs32 _=>?_
      refine e0a2 zs32 fun x0 x5=>?_
      have hu5 : x.1.toNat < 5:=by lia
      have hku : k ∈ snS st x.1.toNat:=(mem_snS' hok).mpr ⟨x,hx,by lia,e1⟩
      have hj:=List.idxOf_lt_length_iff.mpr (hall _ hu5)
      have ht:=hfin _ _ (List.getElem?_eq_some_iff.mpr ⟨hj,List.getElem_idxOf hj⟩) k hku
      have hlt : fin.idxOf k < fin.idxOf x.1.toNat:=by
        obtain ⟨i,hi,e⟩:=List.getElem_of_mem ht
        rw [List.length_take] at hi
        rw [List.getElem_take] at e
        have hi2 : i < fin.length:=by lia
        have : fin.idxOf k ≤ i:=by
          subst e
          refine Classical.byContradiction fun q=>?_
          exact absurd (List.not_of_lt_findIdx (p:=(· == fin[i])) (xs:=fin) (by show i < List.idxOf _ fin; lia)) (by simp)
        lia
      have:=ih x.1.toNat (by lia) hu5
      rw [Int.toNat_of_nonneg x0] at this
      exact e2 this
  have : R5.length ≤ (rowN st 4).length:=R5_nodup.length_le_of_subset fun n hn=>by
    refine e0a2 (R5_iff.mp hn) fun h0 h5=>?_
    have:=key _ n.toNat (Nat.le_refl _) (by lia)
    rwa [Int.toNat_of_nonneg h0] at this
  have:=row_le5 st 4
  have : R5.length = 5:=rfl
  lia
end Mine
namespace Mine
open PySem PySem.W PyProof.Rows PySem.Calls
abbrev toZ (k : Nat) : Int:=k
theorem mem_toZ {l : List Nat} {u : Nat} : (u : Int) ∈ l.map toZ ↔ u ∈ l:=by
  rw [List.mem_map]
  exact ⟨fun ⟨a,h,e⟩=>(show a = u from Int.ofNat.inj e) ▸ h,fun h=>⟨u,h,rfl⟩⟩
theorem nodup_toZ {l : List Nat} (h : (l.map toZ).Nodup) : l.Nodup:=List.Pairwise.of_map toZ (fun _ _ h e=>h (e ▸ rfl)) h
noncomputable def eN (st : List Step) (k : Nat) : Nat:=(stAt st (k : Nat)).1.toNat
noncomputable def lN (st : List Step) (k : Nat) : Nat:=(stAt st (k : Nat)).2.1.toNat
noncomputable def tN (st : List Step) (k : Nat) : Nat:=(stAt st (k : Nat)).2.2.toNat
noncomputable def evs (st : List Step) (j : Nat) : List Nat:=((List.range st.length).filter fun k=>eN st k == j).flatMap fun k=>List.replicate (tN st k) k
theorem st_range (st : List Step) : st = (List.range st.length).map fun k : Nat=>stAt st (k : Nat):=by
  refine List.ext_getElem (by simp) fun i h1 h2=>?_
  rw [List.getElem_map,List.getElem_range,stAt_get h1]
theorem flat_range {β : Type} (p : Step→Bool) (f : Step→List β) (g : Nat→Step) (l : List Step) (l' : List Nat) (h : l = l'.map g) : (l.filter p).flatMap f = (l'.filter fun k=>p (g k)).flatMap fun k=>f (g k):=by
  subst h
  rw [List.filter_map,List.flatMap_map]
  rfl
theorem snS_evs (st : List Step) (j : Nat) : snS st j = (evs st j).map (lN st):=by
  rw [snS_eq,flat_range _ _ _ st _ (st_range st)]
  unfold evs
  rw [List.map_flatMap]
  have e : (fun k : Nat=>List.replicate (stAt st (k : Nat)).2.2.toNat (stAt st (k : Nat)).2.1.toNat) = fun k=>(List.replicate (tN st k) k).map (lN st):=by
    funext k
    rw [List.map_replicate]; rfl
  rw [e]; rfl
theorem mem_evs {st : List Step} {j k : Nat} : k ∈ evs st j ↔ k < st.length∧eN st k = j∧0 < tN st k:=by
  unfold evs
  simp only [List.mem_flatMap,List.mem_filter,List.mem_range,beq_iff_eq,List.mem_replicate]
  constructor
  · intro zi1
    refine e1a3 zi1 fun a zs12 h3 zr13=>?_
    refine e0a2 zs12 fun h1 h2=>?_
    subst zr13
    exact ⟨h1,h2,by lia⟩
  · intro zi2
    refine e0a3 zi2 fun h1 h2 h3=>?_
    exact ⟨k,⟨h1,h2⟩,by lia,rfl⟩
noncomputable def Rk (st : List Step) (pos : Nat→Nat) (k k' : Nat) : Prop:=pos (eN st k) < pos (eN st k') ∨ (eN st k = eN st k'∧k ≤ k')
theorem evs_pw (st : List Step) (pos : Nat→Nat) (L : List Nat) (h : L.Pairwise fun a b=>pos a < pos b) : (L.flatMap (evs st)).Pairwise (Rk st pos):=by
  rw [List.pairwise_flatMap]
  refine ⟨fun j _=>?_,h.imp fun {a b} hab x hx y hy=>.inl ?_⟩
  · unfold evs
    rw [List.pairwise_flatMap]
    refine ⟨fun k _=>List.pairwise_replicate.mpr (.inr (.inr ⟨rfl,Nat.le_refl _⟩)),?_⟩
    have hp : ((List.range st.length).filter fun k=>eN st k == j).Pairwise (· < ·):=List.pairwise_lt_range.sublist List.filter_sublist
    refine hp.imp_of_mem fun {a b} ha hb hab x hx y hy=>.inr ?_
    rw [List.mem_replicate] at hx hy
    rw [hx.2,hy.2]
    have h1 : eN st a = j:=by simpa using (List.mem_filter.mp ha).2
    have h2 : eN st b = j:=by simpa using (List.mem_filter.mp hb).2
    exact ⟨h1.trans h2.symm,Nat.le_of_lt hab⟩
  · rw [(mem_evs.mp hx).2.1,(mem_evs.mp hy).2.1]; exact hab
theorem outF_eq : ∀ (l : List Nat) (np : Nat→Int) (u : Nat),outF np l u = if u ∈ l then -1 else np u
  | [],np,u=>by simp [outF]
  | k :: l,np,u=>by
    have e : outF np (k :: l) = outF (updF np k (-1)) l:=rfl
    rw [e,outF_eq l]
    by_cases q : u ∈ l
    · simp [q]
    · by_cases q2 : u = k
      · subst q2; simp [q,updF_at]
      · simp [q,q2,updF_ne _ _ q2]
theorem idx_pw {row : List Int} (h : row.Nodup) : row.Pairwise fun a b=>row.idxOf a < row.idxOf b:=by
  rw [List.pairwise_iff_getElem]
  intro i j hi hj hij
  rw [h.idxOf_getElem i hi,h.idxOf_getElem j hj]
  exact hij
theorem ltF_of_le {a b : Fo} (h : leF a b = true) (hne : a ≠ b) : ltF a b = true:=by
  cases e : ltF a b with
  | true=>rfl
  | false=>exact absurd (leF_anti h (by unfold leF; rw [e]; rfl)) hne
theorem sortF_filter (xs : List Fo) (hn : xs.Nodup) (p : Fo→Bool) : (sortF xs).filter p = sortF (xs.filter p):=by
  have hp : (sortF xs).Perm xs:=List.mergeSort_perm xs leF
  refine sortF_eq (hp.filter p) (List.Pairwise.sublist List.filter_sublist ?_)
  have h1 : (sortF xs).Pairwise fun a b=>leF a b = true:=List.pairwise_mergeSort leF_trans leF_total xs
  have h2 : (sortF xs).Nodup:=hn.perm hp.symm
  exact (List.Pairwise.and h1 h2).imp fun ⟨a,b⟩=>ltF_of_le a b
noncomputable def clearB (st : List Step) (held : Int) (n : Int) : Bool:=!decide (n ∈ behindN st held 5)
noncomputable def dnB (st : List Step) (held : Int) (i : Nat) (e : Int) : Bool:=decide (e ∈ prv st i) && clearB st held e && e != held
structure Inv (st : List Step) (held : Int) (i : Nat) (r : Rd1) : Prop where
  o : r.out.map toZ = (prv st i).filter (clearB st held)
  l : r.l.map toZ = (lay st i).filter (clearB st held)
  n0 : ∀ u ∈ r.out,r.np u < 0
  n1 : ∀ u : Nat,(u : Int) ∉ (prv st i).filter (clearB st held)→r.np u = tot st fun x=>x.2.1.toNat == u && !dnB st held i x.1
section
variable {st : List Step} {held : Int} (hok : ∀ x ∈ st,StepOk x∧0 < x.2.2)
include hok
theorem inv_zero : Inv st held 0 ⟨npS st,ready0 (npS st) 5,[]⟩:=by
  have ht : ∀ x ∈ st,0 < x.2.2:=fun x hx=>(hok x hx).2
  refine ⟨rfl,?_,fun u hu=>(List.not_mem_nil hu).elim,fun u _=>?_⟩
  · have h1 : (lay st 0).filter (clearB st held) = lay st 0:=List.filter_eq_self.mpr fun n hn=>by
      unfold clearB
      rw [Bool.not_eq_true',decide_eq_false_iff_not]
      intro hb
      refine e1a3 (behind_of hb) fun x hx e _=>?_
      exact absurd ((mem_lay.mp hn).2.2 x hx e) List.not_mem_nil
    rw [h1]
    show ((List.range 5).filter fun k=>npS st k == 0).map toZ = R5.filter fun n=>!decide (n ∈ lates st)
    unfold R5
    rw [List.filter_map]
    refine congrArg _ (List.filter_congr fun k hk=>?_)
    have hiff : npS st k = 0 ↔ (k : Int) ∉ lates st:=by
      rw [npS_eq ht,tot_zero ht]
      unfold lates
      simp only [List.mem_map,not_exists,not_and,beq_eq_false_iff_ne]
      refine ⟨fun h x hx e=>h x hx (by lia),fun h x hx e=>h x hx ?_⟩
      have:=(hok x hx).1.2.1
      lia
    show (npS st k == 0) = !decide ((k : Int) ∈ lates st)
    by_cases q : npS st k = 0
    · rw [q]; simp [hiff.mp q]
    · have : (k : Int) ∈ lates st:=Classical.byContradiction fun h=>q (hiff.mpr h)
      simp [q,this]
  · show npS st u = _
    rw [npS_eq ht]
    refine tot_congr fun x _=>?_
    simp [dnB,prv]
set_option maxHeartbeats 1000000 in
theorem inv_step {i : Nat} {r : Rd1} (h : Inv st held i r) : RoundOk (snS st) held 5 r∧Inv st held (i + 1) (roundF (snS st) held r):=by
  have ht : ∀ x ∈ st,0 < x.2.2:=fun x hx=>(hok x hx).2
  have memO : ∀ u : Nat,u ∈ r.out ↔ (u : Int) ∈ prv st i∧clearB st held u = true:=fun u=>by rw [← mem_toZ,h.o,List.mem_filter]
  have memL : ∀ u : Nat,u ∈ r.l ↔ (u : Int) ∈ lay st i∧clearB st held u = true:=fun u=>by rw [← mem_toZ,h.l,List.mem_filter]
  have lnd : r.l.Nodup:=nodup_toZ (by rw [h.l]; exact List.Nodup.sublist List.filter_sublist (lay_nodup st i))
  have llen : r.l.length ≤ 5:=by
    have e : (r.l.map toZ).length ≤ R5.length:=List.Nodup.length_le_of_subset (by rw [h.l]; exact List.Nodup.sublist List.filter_sublist (lay_nodup st i)) fun n hn=>by
      rw [h.l] at hn
      exact (mem_lay.mp (List.mem_filter.mp hn).1).1
    rw [List.length_map] at e
    exact e
  have memV : ∀ u : Nat,u ∈ liveF held r.l ↔ ((u : Int) ∈ lay st i∧clearB st held u = true)∧(u : Int) ≠ held:=fun u=>by
    unfold liveF
    rw [List.mem_filter,memL]; simp
  have vnd : (liveF held r.l).Nodup:=List.Nodup.sublist List.filter_sublist lnd
  have noE : ∀ j ∈ liveF held r.l,∀ k ∈ liveF held r.l,k ∉ snS st j:=fun j hj k hk hm=>by
    refine e1a3 ((mem_snS' hok).mp hm) fun x hx e1 e2=>?_
    have h1:=(mem_lay.mp ((memV k).mp hk).1.1).2.2 x hx e2
    rw [e1] at h1
    exact (mem_lay.mp ((memV j).mp hj).1.1).2.1 h1
  have np1 : ∀ u,outF r.np r.l u = if u ∈ r.l then -1 else r.np u:=outF_eq r.l r.np
  have dok : DoneOk (snS st) (outF r.np r.l,[]) (liveF held r.l):=doneAll_ok noE vnd fun k hk=>by
    rw [np1,if_pos ((List.mem_filter.mp hk).1)]
  refine ⟨⟨fun k hk=>?_,llen,dok⟩,?_⟩
  · have:=R5_iff.mp (mem_lay.mp ((memL k).mp hk).1).1
    lia
  refine e0a2 (doneAll_run (snS st) (liveF held r.l) (outF r.np r.l,[]) noE) fun run2 run1=>?_
  have rowE : prv st (i + 1) = prv st i ++ lay st i:=rowN_lay st i
  have eLive : ∀ x ∈ st,(x.1.toNat ∈ liveF held r.l ↔ (x.1 ∈ lay st i∧clearB st held x.1 = true)∧x.1 ≠ held):=fun x hx=>by
    have:=(hok x hx).1.1
    rw [memV,Int.toNat_of_nonneg this.1]
  have dn1 : ∀ e,dnB st held (i + 1) e = true ↔ (e ∈ prv st i ∨ e ∈ lay st i)∧clearB st held e = true∧e ≠ held:=fun e=>by
    unfold dnB
    rw [rowE]
    simp only [Bool.and_eq_true,decide_eq_true_eq,List.mem_append,bne_iff_ne]
    exact ⟨fun ⟨⟨a,b⟩,c⟩=>⟨a,b,c⟩,fun ⟨a,b,c⟩=>⟨⟨a,b⟩,c⟩⟩
  have dn0 : ∀ e,dnB st held i e = true ↔ e ∈ prv st i∧clearB st held e = true∧e ≠ held:=fun e=>by
    unfold dnB
    simp only [Bool.and_eq_true,decide_eq_true_eq,bne_iff_ne]
    exact ⟨fun ⟨⟨a,b⟩,c⟩=>⟨a,b,c⟩,fun ⟨a,b,c⟩=>⟨⟨a,b⟩,c⟩⟩
  have rem : ∀ u : Nat,(u : Int) ∉ (prv st (i + 1)).filter (clearB st held)→u ∉ r.l∧u ∉ r.out ∧
      outF r.np r.l u = (tot st fun x=>x.2.1.toNat == u && !dnB st held (i + 1) x.1) + (((liveF held r.l).flatMap (snS st)).count u : Int):=fun u hu=>by
    rw [rowE,List.filter_append,List.mem_append,not_or] at hu
    have h1 : u ∉ r.l:=fun q=>hu.2 (List.mem_filter.mpr ((memL u).mp q))
    have h2 : u ∉ r.out:=fun q=>hu.1 (List.mem_filter.mpr ((memO u).mp q))
    refine ⟨h1,h2,?_⟩
    rw [np1,if_neg h1,h.n1 u hu.1,count_flat ht vnd]
    refine tot_split (fun x hx=>?_) fun x hx ⟨q1,q2⟩=>?_
    · show (x.2.1.toNat == u && !dnB st held i x.1) = ((x.2.1.toNat == u && !dnB st held (i + 1) x.1) || (decide (x.1.toNat ∈ liveF held r.l) && x.2.1.toNat == u))
      have a:=eLive x hx
      have b:=dn1 x.1
      have c:=dn0 x.1
      by_cases e1 : x.2.1.toNat = u
      · by_cases e2 : x.1.toNat ∈ liveF held r.l
        · refine e0a2 (a.mp e2) fun zs14 z3=>?_
          refine e0a2 zs14 fun z1 z2=>?_
          have : dnB st held i x.1 = false:=by
            cases q : dnB st held i x.1 with
            | false=>rfl
            | true=>exact absurd (c.mp q).1 (mem_lay.mp z1).2.1
          simp [e1,e2,this]
        · have : dnB st held (i + 1) x.1 = dnB st held i x.1:=by
            cases q : dnB st held i x.1 with
            | true=>have z:=c.mp q; exact b.mpr ⟨.inl z.1,z.2⟩
            | false =>
              cases q2 : dnB st held (i + 1) x.1 with
              | false=>rfl
              | true =>
                have z:=b.mp q2
                rcases z.1 with z1 | z1
                · rw [c.mpr ⟨z1,z.2⟩] at q; cases q
                · exact absurd (a.mpr ⟨⟨z1,z.2.1⟩,z.2.2⟩) e2
          simp [e1,e2,this]
      · have e2 : (x.2.1.toNat == u) = false:=by simpa using e1
        rw [e2]; simp
    · simp only [Bool.and_eq_true,beq_iff_eq,Bool.not_eq_true',decide_eq_true_eq] at q1 q2
      have:=(eLive x hx).mp q2.1
      rw [(dn1 x.1).mpr ⟨.inr this.1.1,this.1.2,this.2⟩] at q1
      exact absurd q1.2 (by decide)
  have tnn : ∀ u : Nat,0 ≤ tot st fun x=>x.2.1.toNat == u && !dnB st held (i + 1) x.1:=fun u=>tot_nonneg ht
  have neg : ∀ u : Nat,u ∈ r.out ∨ u ∈ r.l→outF r.np r.l u < 0:=fun u hu=>by
    rw [np1]
    split
    · decide
    · rename_i q
      rcases hu with hu | hu
      · exact h.n0 u hu
      · exact absurd hu q
  have memD : ∀ u : Nat,u ∈ (doneAll (snS st) (outF r.np r.l,[]) (liveF held r.l)).2 ↔ 0 < outF r.np r.l u∧outF r.np r.l u ≤ (((liveF held r.l).flatMap (snS st)).count u : Int):=fun u=>by
    rw [run2,decAll_mem]; simp
  have fresh : ∀ u : Nat,u ∈ (doneAll (snS st) (outF r.np r.l,[]) (liveF held r.l)).2→(u : Int) ∉ (prv st (i + 1)).filter (clearB st held):=fun u hu q=>by
    have z:=((memD u).mp hu).1
    rw [rowE,List.filter_append,List.mem_append,List.mem_filter,List.mem_filter] at q
    have:=neg u (q.imp (memO u).mpr (memL u).mpr)
    lia
  have allDn : ∀ u : Nat,u ∈ (doneAll (snS st) (outF r.np r.l,[]) (liveF held r.l)).2→outF r.np r.l u = (((liveF held r.l).flatMap (snS st)).count u : Int)∧∀ x ∈ st,x.2.1 = (u : Int)→dnB st held (i + 1) x.1 = true:=fun u hu=>by
    refine e0a3 (rem u (fresh u hu)) fun _ _ e=>?_
    have z:=(memD u).mp hu
    have:=tnn u
    have t0 : (tot st fun x=>x.2.1.toNat == u && !dnB st held (i + 1) x.1) = 0:=by lia
    refine ⟨by lia,fun x hx e1=>?_⟩
    have:=(tot_zero ht).mp t0 x hx
    have e2 : (x.2.1.toNat == u) = true:=by rw [e1]; simp
    rw [e2,Bool.true_and] at this
    simpa using this
  have memN : ∀ n : Int,n ∈ (doneAll (snS st) (outF r.np r.l,[]) (liveF held r.l)).2.map toZ ↔ n ∈ (R5.filter (isNew st (rowN st i))).filter (clearB st held):=fun n=>by
    rw [List.mem_filter,List.mem_filter,isNew_iff]
    constructor
    · intro hn
      refine e1a2 (List.mem_map.mp hn) fun u hu zr15=>?_
      subst zr15
      have hf:=fresh u hu
      have hd:=(allDn u hu).2
      have hg : clearB st held (u : Int) = true:=by
        unfold clearB
        rw [Bool.not_eq_true',decide_eq_false_iff_not]
        intro hb
        refine e1a3 (behind_of hb) fun x hx e hh=>?_
        refine e0a3 ((dn1 x.1).mp (hd x hx e)) fun _ z2 z3=>?_
        rcases hh with hh | hh
        · exact z3 hh
        · unfold clearB at z2
          rw [Bool.not_eq_true',decide_eq_false_iff_not] at z2
          exact z2 hh
      refine ⟨⟨?_,fun q=>hf (List.mem_filter.mpr ⟨q,hg⟩),fun x hx e=>?_⟩,hg⟩
      · have hz:=(memD u).mp hu
        have hc : u ∈ (liveF held r.l).flatMap (snS st):=List.count_pos_iff.mp (by lia)
        refine e1a2 (List.mem_flatMap.mp hc) fun j _ hj=>?_
        refine e1a3 ((mem_snS' hok).mp hj) fun x hx _ e=>?_
        exact R5_iff.mpr (show 0 ≤ (u : Int)∧(u : Int) < 5 from e ▸ (hok x hx).1.2.1)
      · have:=((dn1 x.1).mp (hd x hx e)).1
        rw [rowN_lay]
        exact List.mem_append.mpr this
    · intro zi3
      refine e0a2 zi3 fun zs16 hg=>?_
      refine e0a3 zs16 fun h5 hnr hnd=>?_
      obtain ⟨u,rfl⟩ : ∃ u : Nat,n = (u : Int):=⟨n.toNat,(Int.toNat_of_nonneg (R5_iff.mp h5).1).symm⟩
      have hf : (u : Int) ∉ (prv st (i + 1)).filter (clearB st held):=fun q=>hnr (List.mem_filter.mp q).1
      refine e0a3 (rem u hf) fun hl ho e=>?_
      have hgx : ∀ x ∈ st,x.2.1 = (u : Int)→clearB st held x.1 = true∧x.1 ≠ held:=fun x hx e1=>by
        unfold clearB at hg ⊢
        rw [Bool.not_eq_true',decide_eq_false_iff_not] at hg ⊢
        have hok' : ∀ x ∈ st,StepOk x:=fun x hx=>(hok x hx).1
        exact ⟨fun q=>hg (e1 ▸ behind_in hok' hx (.inr q)),fun q=>hg (e1 ▸ behind_in hok' hx (.inl q))⟩
      have t0 : (tot st fun x=>x.2.1.toNat == u && !dnB st held (i + 1) x.1) = 0:=(tot_zero ht).mpr fun x hx=>by
        by_cases e1 : x.2.1.toNat = u
        · have e2 : x.2.1 = (u : Int):=by have:=(hok x hx).1.2.1; lia
          have:=hnd x hx e2
          rw [rowN_lay] at this
          rw [(dn1 x.1).mpr ⟨List.mem_append.mp this,hgx x hx e2⟩]
          simp
        · simp [e1]
      rw [mem_toZ,memD]
      refine ⟨?_,by lia⟩
      have hpos : outF r.np r.l u ≠ 0:=fun q=>by
        rw [np1,if_neg hl] at q
        have hp : (u : Int) ∉ (prv st i).filter (clearB st held):=fun z=>hf (by rw [rowE,List.filter_append]; exact List.mem_append.mpr (.inl z))
        rw [h.n1 u hp,tot_zero ht] at q
        refine hnr ?_
        rw [rowN_lay]
        refine List.mem_append.mpr (.inr (mem_lay.mpr ⟨h5,fun z=>hnr (prv_row z),fun x hx e1=>?_⟩))
        have:=q x hx
        have e2 : (x.2.1.toNat == u) = true:=by rw [e1]; simp
        rw [e2,Bool.true_and] at this
        exact ((dn0 x.1).mp (by simpa using this)).1
      lia
  refine ⟨?_,?_,fun u hu=>?_,fun u hu=>?_⟩
  · show (r.out ++ r.l).map toZ = _
    rw [List.map_append,h.o,h.l,← List.filter_append,rowE]
  · -- in which order
    show (doneAll (snS st) (outF r.np r.l,[]) (liveF held r.l)).2.map toZ = _
    have eZ : (doneAll (snS st) (outF r.np r.l,[]) (liveF held r.l)).2 = (decZ (lN st) (outF r.np r.l) ((liveF held r.l).flatMap (evs st))).map (lN st):=by
      have e1 : (liveF held r.l).flatMap (snS st) = ((liveF held r.l).flatMap (evs st)).map (lN st):=by
        rw [List.map_flatMap]
        exact congrArg (fun f=>List.flatMap f (liveF held r.l)) (funext fun j=>snS_evs st j)
      rw [run2,e1,decZ_eq]
      rfl
    have vpw : (liveF held r.l).Pairwise fun (a b : Nat)=>(rowN st i).idxOf (a : Int) < (rowN st i).idxOf (b : Int):=by
      have h1 : (lay st i).Sublist (rowN st i):=by rw [rowN_lay]; exact List.sublist_append_right _ _
      have h2 : (r.l.map toZ).Sublist (rowN st i):=by rw [h.l]; exact List.filter_sublist.trans h1
      have h3:=(idx_pw (rowN_nodup st i)).sublist h2
      rw [List.pairwise_map] at h3
      exact h3.sublist List.filter_sublist
    have epw:=evs_pw st (fun a=>(rowN st i).idxOf (a : Int)) _ vpw
    have cev : ((liveF held r.l).flatMap (snS st)) = ((liveF held r.l).flatMap (evs st)).map (lN st):=by
      rw [List.map_flatMap]
      exact congrArg (fun f=>List.flatMap f (liveF held r.l)) (funext fun j=>snS_evs st j)
    generalize hZ : decZ (lN st) (outF r.np r.l) ((liveF held r.l).flatMap (evs st)) = Z at eZ
    have znd : (Z.map (lN st)).Nodup:=hZ ▸ decZ_nodup (lN st) _ _
    have zsub : Z.Sublist ((liveF held r.l).flatMap (evs st)):=hZ ▸ decZ_sub (lN st) _ _
    have key : ∀ z ∈ Z,maxP (aheadF st (rowN st i) (lN st z : Nat)) = ((((rowN st i).idxOf (stAt st (z : Nat)).1 : Nat) : Int),((z : Nat) : Int)):=fun z hz=>by
      have hu : lN st z ∈ (doneAll (snS st) (outF r.np r.l,[]) (liveF held r.l)).2:=by rw [eZ]; exact List.mem_map.mpr ⟨z,hz,rfl⟩
      refine e0a2 (allDn _ hu) fun hcnt hdn=>?_
      refine e1a2 (List.mem_flatMap.mp (zsub.subset hz)) fun j hj hzj=>?_
      refine e0a3 (mem_evs.mp hzj) fun zl ze zt=>?_
      have zm:=stAt_mem zl
      have zo:=(hok _ zm).1
      have zj : (stAt st (z : Nat)).1 = (j : Int):=by
        have:=zo.1.1
        unfold eN at ze
        lia
      have zu : (stAt st (z : Nat)).2.1 = (lN st z : Nat):=by
        have:=zo.2.1.1
        unfold lN
        lia
      have jv:=(memV j).mp hj
      have jrow : (j : Int) ∈ rowN st i:=by rw [rowN_lay]; exact List.mem_append.mpr (.inr jv.1.1)
      refine maxP_eq ?_ fun q hq=>?_
      · unfold aheadF
        refine List.mem_map.mpr ⟨(z : Nat),List.mem_filter.mpr ⟨needsF_iff.mpr ⟨z,zl,rfl,zu⟩,?_⟩,rfl⟩
        rw [zj]; simpa using jrow
      · unfold aheadF at hq
        refine e1a2 (List.mem_map.mp hq) fun k hk zr17=>?_
        subst zr17
        refine e0a2 (List.mem_filter.mp hk) fun hk1 _=>?_
        refine e1a3 (needsF_iff.mp hk1) fun k' kl zr18 ku=>?_
        subst zr18
        have km:=stAt_mem kl
        have kd:=(dn1 _).mp (hdn _ km ku)
        rw [gtP_no,zj]
        rcases kd.1 with kp | kp
        · left
          have h1 : (rowN st i).idxOf (stAt st (k' : Nat)).1 < (prv st i).length:=by
            rw [rowN_lay,List.idxOf_append,if_pos kp]
            exact List.idxOf_lt_length_iff.mpr kp
          have h2 : (prv st i).length ≤ (rowN st i).idxOf (j : Int):=by
            rw [rowN_lay,List.idxOf_append,if_neg (mem_lay.mp jv.1.1).2.1]
            lia
          show (((rowN st i).idxOf (stAt st (k' : Nat)).1 : Nat) : Int) < ((rowN st i).idxOf (j : Int) : Nat)
          lia
        · have kv:=(eLive _ km).mpr ⟨⟨kp,kd.2.1⟩,kd.2.2⟩
          have kin : k' ∈ (liveF held r.l).flatMap (evs st):=List.mem_flatMap.mpr ⟨eN st k',kv,mem_evs.mpr ⟨kl,rfl,by have:=(hok _ km).2; unfold tN; lia⟩⟩
          have klu : lN st k' = lN st z:=by unfold lN; rw [ku,zu]
          have hR:=decZ_max (lN st) (Rk st fun a=>(rowN st i).idxOf (a : Int)) (fun _=>.inr ⟨rfl,Nat.le_refl _⟩) _ (outF r.np r.l) epw z (hZ ▸ hz) (by rw [hcnt,cev]) k' kin klu
          have ke : (stAt st (k' : Nat)).1 = (eN st k' : Nat):=by
            have:=(hok _ km).1.1.1
            unfold eN
            lia
          have zee : (stAt st (z : Nat)).1 = (eN st z : Nat):=by rw [zj,ze]
          rw [← zj,ke,zee]
          dsimp only [Rk] at hR
          rcases hR with hR | ⟨hR1,hR2⟩
          · left
            show (((rowN st i).idxOf (eN st k' : Int) : Nat) : Int) < ((rowN st i).idxOf (eN st z : Int) : Nat)
            lia
          · right
            refine ⟨by rw [hR1],?_⟩
            show ((k' : Nat) : Int) ≤ (z : Nat)
            lia
    have zF : Z.map (fun z=>(maxP (aheadF st (rowN st i) (lN st z : Nat)),((lN st z : Nat) : Int))) = sortF ((foundF st (rowN st i) R5).filter fun f=>clearB st held f.2):=by
      refine sortF_eq ?_ ?_
      · have e1 : Z.map (fun z=>(maxP (aheadF st (rowN st i) (lN st z : Nat)),((lN st z : Nat) : Int))) = ((Z.map (lN st)).map toZ).map fun n=>(maxP (aheadF st (rowN st i) n),n):=by
          rw [List.map_map,List.map_map]; rfl
        have e2 : ((foundF st (rowN st i) R5).filter fun f=>clearB st held f.2) = ((R5.filter (isNew st (rowN st i))).filter (clearB st held)).map fun n=>(maxP (aheadF st (rowN st i) n),n):=by
          unfold foundF
          rw [List.filter_map]; rfl
        rw [e1,e2]
        refine List.Perm.map _ ((List.perm_ext_iff_of_nodup ?_ ?_).mpr fun n=>?_)
        · exact List.Pairwise.map toZ (fun a b h e=>h (Int.ofNat.inj e)) znd
        · exact List.Nodup.sublist (List.filter_sublist.trans List.filter_sublist) R5_nodup
        · rw [← eZ]; exact memN n
      · rw [List.pairwise_map]
        have p1 : Z.Pairwise (Rk st fun a=>(rowN st i).idxOf (a : Int)):=epw.sublist zsub
        have p2 : Z.Pairwise fun a b=>lN st a ≠ lN st b:=by
          have:=znd
          unfold List.Nodup at this
          rwa [List.pairwise_map] at this
        refine (List.Pairwise.and p1 p2).imp_of_mem fun {a b} ha hb ⟨q1,q2⟩=>?_
        rw [key a ha,key b hb]
        refine e1a2 (List.mem_flatMap.mp (zsub.subset ha)) fun ja _ ja2=>?_
        refine e1a2 (List.mem_flatMap.mp (zsub.subset hb)) fun jb _ jb2=>?_
        have oa:=(hok _ (stAt_mem (mem_evs.mp ja2).1)).1.1.1
        have ob:=(hok _ (stAt_mem (mem_evs.mp jb2).1)).1.1.1
        have ea : (stAt st (a : Nat)).1 = (eN st a : Nat):=by unfold eN; lia
        have eb : (stAt st (b : Nat)).1 = (eN st b : Nat):=by unfold eN; lia
        rw [ea,eb]
        have hab : a ≠ b:=fun q=>q2 (q ▸ rfl)
        unfold ltF ltP
        dsimp only [Rk] at q1
        rw [if_neg (by
          intro hq
          have:=(Prod.mk.inj hq).2
          lia)]
        rcases q1 with q1 | ⟨q1,q3⟩
        · rw [if_neg (by show ¬ (((rowN st i).idxOf (eN st a : Int) : Nat) : Int) = ((rowN st i).idxOf (eN st b : Int) : Nat); lia)]
          simp only [decide_eq_true_eq]
          lia
        · rw [if_pos (by rw [q1])]
          simp only [decide_eq_true_eq]
          lia
    show _ = (((sortF (foundF st (rowN st i) R5)).map (·.2)).filter (clearB st held))
    have fnd : (foundF st (rowN st i) R5).Nodup:=List.Pairwise.of_map (·.2) (fun _ _ h e=>h (e ▸ rfl)) (foundF_nodup st (rowN st i))
    have e3 : ((sortF (foundF st (rowN st i) R5)).map (·.2)).filter (clearB st held) = ((sortF (foundF st (rowN st i) R5)).filter fun f=>clearB st held f.2).map (·.2):=by
      rw [List.filter_map]; rfl
    rw [e3,sortF_filter _ fnd,← zF,List.map_map,eZ,List.map_map]
    rfl
  · show (doneAll (snS st) (outF r.np r.l,[]) (liveF held r.l)).1 u < 0
    rw [run1]
    split
    · decide
    · have:=neg u (List.mem_append.mp hu)
      show outF r.np r.l u - _ < 0
      lia
  · show (doneAll (snS st) (outF r.np r.l,[]) (liveF held r.l)).1 u = _
    refine e0a3 (rem u hu) fun a b c=>?_
    have hq : ¬ u ∈ liveF held r.l:=fun q=>a (List.mem_filter.mp q).1
    rw [run1,if_neg hq]
    show outF r.np r.l u - _ = _
    lia
theorem inv_all : ∀ i,Inv st held i (roundsF (snS st) held ⟨npS st,ready0 (npS st) 5,[]⟩ i)
  | 0=>inv_zero hok
  | i + 1=>(inv_step hok (inv_all i)).2
theorem rounds_ok (i : Nat) : RoundOk (snS st) held 5 (roundsF (snS st) held ⟨npS st,ready0 (npS st) 5,[]⟩ i):=(inv_step hok (inv_all hok i)).1
theorem rounds_len (i : Nat) (h6 : i ≤ 6) : (roundsF (snS st) held ⟨npS st,ready0 (npS st) 5,[]⟩ i).out.length ≤ 1000:=by
  have h:=congrArg List.length (inv_all (held:=held) hok i).o
  rw [List.length_map] at h
  rw [h]
  refine Nat.le_trans (List.length_filter_le _ _) ?_
  cases i with
  | zero=>exact Nat.zero_le _
  | succ i=>have:=row_le5 st i; show (rowN st i).length ≤ 1000; lia
theorem rounds_out : (roundsF (snS st) held ⟨npS st,ready0 (npS st) 5,[]⟩ 6).out.map toZ = (rowN st 4).filter fun n=>!decide (n ∈ behindN st held 5):=by
  have h:=(inv_all (held:=held) hok 6).o
  rw [h]
  show (rowN st 5).filter _ = _
  rw [row5]; rfl
end
end Mine
namespace Mine
open PySem PySem.W PyProof.Rows PySem.Calls
noncomputable def fdLaw : FuncData:=fdS (topAt 20) "law" "law" (.str "law_ox0192_01" 595) (.ref 306) .none .none
section
variable {prog : Program} {w : World} {K : Frag} {mg mb : Str→Option Value} {A : Around} {env : Env} {s0 s s' : Shared} {mt : List Addr} {ρ : List (Str × PyData)}
theorem Fm.ownSlots (F : Fm K mg mb s0 env mt ρ s) (k : Kb [env.locals] s s') (f : FrS [env.locals] s.heap s'.heap) : Fm K mg mb s0 env mt ρ s'∧∀ y v,Var env s.heap y v→Var env s'.heap y v:=by
  refine e2a2 k fun h' tk zr396 kb=>?_
  subst zr396
  have ne : ∀ b,b ≠ env.locals→b ∉ [env.locals]:=fun b h q=>by
    rcases List.mem_cons.mp q with q | q
    · exact h q
    · cases q
  have kn : ∀ m,s.heap.Ns env.locals m→h'.Ns env.locals m:=fun m hm=>by
    refine e3a3 hm fun o es ep ho hd r=>?_
    refine e1a1 (f env.locals (.head _) o ho) fun sl e=>?_
    exact ⟨_,es,ep,e,hd,r⟩
  have kc : ∀ y b o,env.cells.lookup y = some b→s.heap.get? b = some o→h'.get? b = some o:=fun y b o e ho=>kb b o (ne b (F.cels y b e).2) ho
  have lm : env.locals ∈ mt:=(F.locs _ (.inl rfl)).1
  refine ⟨F.anew (fun y d e=>?_) (fun b ⟨o,e⟩=>?_) kn kc fun b o e=>kb b o (ne b fun q=>by rw [q,(F.locs _ (.inl rfl)).2] at e; cases e) (Keeps.ext F.keep b o e),fun y v V=>V.anew kn kc⟩
  · refine e1a2 (F.vars y d e) fun v hv hr=>?_
    exact ⟨v,hv.anew kn kc,hr.mono (fun b o hb e=>kb b o (ne b fun q=>hb (q ▸ lm)) e) fun b hb=>.inl hb⟩
  · by_cases q : b = env.locals
    · obtain ⟨sl,e'⟩:=f env.locals (.head _) o (q ▸ e); exact ⟨_,q ▸ e'⟩
    · exact ⟨o,kb b o (ne b q) e⟩
end
end Mine
namespace Mine
open PySem PySem.W PyProof.Rows PySem.Calls
section
variable {prog : Program} {w : World} {K : Frag} {mg mb : Str→Option Value} {A : Around} {env : Env} {ρ : List (Str × PyData)}
theorem pt_pe {x : Expr} {b : Bool} (h : PE prog w K mg mb A env ρ x (.bool b)) (he : ∀ whole : Sem Value,isTrue x env whole = (do let v ← whole; standAt x.pos; holding [v] (truthy v)):=by intro _; rfl) : PT prog w K mg mb A env ρ x b:=fun E s mt S =>
  wpAny_isTrue_value (wpAny_mono (h E s mt S) (fun v s₁ ⟨k1,r1⟩=>by
    obtain rfl:=r1.bool_inv
    exact wpAny_truthy_bool ⟨rfl,k1⟩) fun _ _ e=>e) (he _)
theorem pt_or3 {x y z : Expr} (pos : Pos) (h1 : PT prog w K mg mb A env ρ x false) (h2 : PT prog w K mg mb A env ρ y false) (h3 : PT prog w K mg mb A env ρ z false) : PT prog w K mg mb A env ρ (.BoolOp .Or [x,y,z] pos) false:=fun E s mt S =>
  wpAny_isTrue_BoolOp (wpAny_allTrue_Or_cons (wpAny_mono (h1 E s mt S) (fun r s₁ ⟨e,k⟩=>by
    subst e
    refine wpAny_allTrue_Or_cons (wpAny_mono (h2 E s₁ mt (S.keeps k)) (fun r s₂ ⟨e,k2⟩=>?_) fun _ _ e=>e)
    subst e
    refine wpAny_allTrue_Or_cons (wpAny_mono (h3 E s₂ mt ((S.keeps k).keeps k2)) (fun r s₃ ⟨e,k3⟩=>?_) fun _ _ e=>e)
    subst e
    exact wpAny_allTrue_Or_nil ⟨rfl,Keeps.trans' k (Keeps.trans' k2 k3)⟩) fun _ _ e=>e))
theorem pt_neB {l r : Expr} {a b : Bool} (pos : Pos) (hl : PE prog w K mg mb A env ρ l (.bool a)) (hr : PE prog w K mg mb A env ρ r (.bool b)) (hm : behindInMarks .NotEq r = false:=by with_unfolding_all rfl) : PT prog w K mg mb A env ρ (.Compare l [.NotEq] [r] pos) (a != b):=fun E s mt S =>
  wpAny_isTrue_Compare1 (pe_two S hl hr fun x y s' k _ rx ry=>by
    obtain rfl:=rx.bool_inv
    obtain rfl:=ry.bool_inv
    exact ne_bool (wpAny_truthy_bool ⟨rfl,k⟩)) hm
theorem pt_neL {l r : Expr} {ns : List Int} (pos : Pos) (hA : Aok 0 A) (hl : PE prog w K mg mb A env ρ l (.list (ns.map .int))) (hr : PE prog w K mg mb A env ρ r (.list (ns.map .int))) (hm : behindInMarks .NotEq r = false:=by with_unfolding_all rfl) : PT prog w K mg mb A env ρ (.Compare l [.NotEq] [r] pos) false:=fun E s mt S =>
  wpAny_isTrue_Compare1 (pe_two S hl hr fun x y s' k _ rx ry=>by
    refine e2a4 rx.list_inv fun a vs zr397 _ zs398 r1=>?_
    subst zr397
    refine e1a1 zs398 fun n ha=>?_
    refine e2a4 ry.list_inv fun b us zr399 _ zs400 r2=>?_
    subst zr399
    refine e1a1 zs400 fun n' hb=>?_
    have l1 : vs.length = ns.length:=by simpa using r1.length
    have l2 : us.length = ns.length:=by simpa using r2.length
    have z:=SeqAt.RcNeAt.lists (A:=A) (s:=s') (l:=a) (b:=b) (items:=vs.toArray) (items2:=us.toArray) (e:=fun _=>true) ⟨_,ha,rfl,_,rfl⟩ ⟨_,hb,rfl,_,rfl⟩ (by simp [l1,l2]) (by have:=hA.un; lia) (fun j h1 h2=>by
      have hj : j < ns.length:=by simp at h1; lia
      have e1 : (ns.map PyData.int)[j]? = some (.int ns[j]):=by rw [List.getElem?_map,List.getElem?_eq_getElem hj]; rfl
      refine e1a2 (r1.get e1) fun v hv rv=>?_
      refine e1a2 (r2.get e1) fun u hu' ru=>?_
      have f1 : vs.toArray[j] = v:=by
        have:=(List.getElem?_eq_some_iff.mp hv).2; simpa using this
      have f2 : us.toArray[j] = u:=by
        have:=(List.getElem?_eq_some_iff.mp hu').2; simpa using this
      rw [f1,f2]
      refine e1a1 rv.int_inv fun t zr401=>?_
      subst zr401
      refine e1a1 ru.int_inv fun t' zr402=>?_
      subst zr402
      exact int_at _ _ _)
    have e3 : ∀ k : Nat,((List.range k).all fun _=>true) = true:=fun k=>List.all_eq_true.mpr fun _ _=>rfl
    rw [e3] at z
    exact z prog w _ _ (wpAny_truthy_bool ⟨rfl,k⟩)) hm
end
structure LawK (prog : Program) (w : World) (K : Frag) (mg mb : Str→Option Value) : Prop where
  n : Nm mg mb
  fLaw : FnAt K 307 fdLaw
  fNum : FnAt K 270 fdNumbers
  fSteps : FnAt K 277 fdSteps
  fRow : FnAt K 282 fdRow
  fBehind : FnAt K 287 fdBehind
  fRun : FnAt K 292 fdRun
  fRight : FnAt K 302 fdRight
  nNum : mg "_law_numbers" = some (.ref 270)
  nSteps : mg "_law_steps" = some (.ref 277)
  nRow : mg "_law_row" = some (.ref 282)
  nBehind : mg "_law_behind" = some (.ref 287)
  nRun : mg "_law_run" = some (.ref 292)
  nRight : mg "_law_right" = some (.ref 302)
  right : RightK prog w K mg
  ns : NmS mg K
  nn : NodeNew prog w K
  nt : NmT mg
  ny : NmY mg mb
  nr : NmR mg K
  sn : SortNew prog w K
  sk : SoK K
  sm : SoM K
  ma : StarK K "add" 211
  md : StarK K "done" 244
  cy : CycK K mg
section
variable {prog : Program} {w : World} {K : Frag} {mg mb : Str→Option Value} {A : Around} {env : Env} {s s0 : Shared} {E : Value→Shared→Prop} {Q : Flow→Shared→Prop} {mt : List Addr} {ρ : List (Str × PyData)}
theorem ex_run {st : List Step} {held : Int} {rest : List Stmt} {p1 p2 p3 p4 p5 p6 p7 p8 : Pos} {k : Nat} (LK : LawK prog w K mg mb) (hA : Aok 4 A) (hd : A.depth ≤ 600) (hu : A.units ≤ 800) (hfr : A.frames = some [env]) (hfe : env.frame = some env.locals)
    (F : Fm K mg mb s0 env mt ρ s) (hs : ρ.lookup ("steps" : Str) = some (encS st)) (hh : ρ.lookup ("held" : Str) = some (.int held))
    (kr : env.kindOf "_law_run" = some .globalImplicit) (ko : env.kindOf "out" = some .local) (kg : env.kindOf "ringed" = some .local)
    (hok : ∀ x ∈ st,StepOk x∧0 < x.2.2) (hst : st.length ≤ 100)
    (h : ∀ s' b,(b = false∧Acyc (snS st) 5 ∨ b = true∧Cyc (snS st) 5)→Fm K mg mb s0 env mt (("ringed",.bool b) :: ("out",.list (((rowN st 4).filter fun n=>!decide (n ∈ behindN st held 5)).map .int)) :: ρ) s'→(∀ mE,(∀ b,Loc env b→b ∈ mE)→Kb mE s s')→wpAny (model prog w) A (execs rest env) Q E s') :
    wpAny (model prog w) A (execs (.Assign [.Tuple [.Name "out" p1,.Name "ringed" p2] k p3] (.Call (.Name "_law_run" p4) [.Name "steps" p5,.Name "held" p6] [] p7) p8 :: rest) env) Q E s:=by
  refine e1a2 (F.vars _ _ hs) fun v1 V1 r1=>?_
  refine e1a2 (F.vars _ _ hh) fun v2 V2 r2=>?_
  refine e1a1 r2.int_inv fun t zr403=>?_
  subst zr403
  have hfo : framesOf [env] = [env.locals]:=by unfold framesOf; simp [hfe]
  have L0 : s0.heap.get? env.locals = none:=(F.locs _ (.inl rfl)).2
  have Lm : env.locals ∈ mt:=(F.locs _ (.inl rfl)).1
  have G : Gl K mg mb (hideAll s.heap (framesOf [env])):=F.gl0.ext fun b o e=>hideAll_get _ (Keeps.ext F.keep b o e) fun q=>by
    rw [hfo] at q
    rcases List.mem_cons.mp q with q | q
    · rw [q,L0] at e; cases e
    · cases q
  have B : Below s.heap [env]:=⟨by rw [F.knd]; decide,by
    refine e4a3 F.lns fun m ob es ep eL hdL _=>?_
    exact ⟨env.locals,ob,hfe,eL,fun vs q=>by rw [hdL] at q; cases q⟩,trivial⟩
  refine wpAny_execs_cons (wpAny_Assign_stores (Call_Name rfl (nm_g F.sv kr LK.nRun (callWith_function (evalArgs_plain (wpAny_items_cons (wpAny_Name (V1.load (wpAny_items_cons (wpAny_Name (V2.load (wpAny_items_nil ⟨⟨F.sv.gl.k _ _ LK.fRun.1,rfl⟩,?_⟩)) (by decide)) rfl)) (by decide)) rfl))))) rfl rfl)
  refine run_call (outer:=[env]) (mt:=mt) (st:=st) (sn:=snS st) LK.n LK.ns LK.nn LK.nt LK.ny LK.nr LK.sn LK.sk LK.sm LK.ma LK.md LK.cy LK.fRun hA hd hu G (fun b hb=>?_) F.mex hfr B r1 hst (fun y hy=>(hok y hy).1) (suS_sn st) (fun k u hu=>?_) (fun k=>?_) (fun i _=>rounds_ok hok i) (fun i h6=>rounds_len hok i h6) fun v s' b hb kb fs rv=>?_
  · rw [hfo] at hb
    rcases List.mem_cons.mp hb with rfl | hb
    · exact Lm
    · cases hb
  · refine e1a3 ((mem_snS' hok).mp hu) fun x hx _ e=>?_
    have:=(hok x hx).1.2.1
    lia
  · have:=snS_len st (fun x hx=>(hok x hx).1) k
    lia
  · rw [hfo] at kb fs
    refine e0a2 (F.ownSlots kb fs) fun F2 _=>?_
    have e : ((roundsF (snS st) held ⟨npS st,ready0 (npS st) 5,[]⟩ 6).out.map fun k : Nat=>PyData.int (k : Nat)) = ((rowN st 4).filter fun n=>!decide (n ∈ behindN st held 5)).map .int:=by
      rw [← rounds_out hok,List.map_map]; rfl
    rw [e] at rv
    refine (tgtF_tuple (xs:=[("out",p1),("ringed",p2)]) (k:=k) (pos:=p3) hA.hd rfl (fun y hy=>?_)) E mt ρ s' v _ F2 rv fun s₃ F3 k3=>?_
    · rcases List.mem_cons.mp hy with rfl | hy
      · exact .inl ko
      · rcases List.mem_cons.mp hy with rfl | hy
        · exact .inl kg
        · cases hy
    · refine h s₃ b hb F3 fun mE hmE=>Kb.trans (kb.mono fun b hb=>?_) (k3.kb' hmE)
      rcases List.mem_cons.mp hb with rfl | hb
      · exact hmE _ (.inl rfl)
      · cases hb
end
end Mine
namespace Mine
open PySem PySem.W PyProof.Rows PySem.Calls
noncomputable def goodsF (nums : List Int) (l : List Int) : List Int:=l.map fun n=>(nums.getD n.toNat 0).fdiv 300
theorem fmod_ok (a : Int) {b : Int} (hb : 0 < b) : 0 ≤ a.fmod b∧a.fmod b < b:=⟨Int.fmod_nonneg_of_pos a hb,Int.fmod_lt_of_pos a hb⟩
theorem numbersF_ok (ns : List Int) : ∀ x ∈ numbersF ns,0 ≤ x∧x < 900:=fun x hx=>by
  obtain ⟨k,_,rfl⟩:=List.mem_map.mp hx
  exact fmod_ok _ (by decide)
theorem numbersF_len (ns : List Int) : (numbersF ns).length = 6:=by simp [numbersF]
theorem stepOf_ok (y : Int) : ∀ x ∈ stepOf y,StepOk x∧0 < x.2.2:=fun x hx=>by
  have a:=fmod_ok y (b:=5) (by decide)
  have b:=fmod_ok (y.fdiv 5) (b:=5) (by decide)
  have c:=fmod_ok (y.fdiv 150) (b:=2) (by decide)
  unfold stepOf at hx
  unfold StepOk
  split at hx
  · rw [List.mem_singleton.mp hx]
    exact ⟨⟨a,b,by show 0 ≤ 1 + (y.fdiv 150).fmod 2; omega,by show 1 + (y.fdiv 150).fmod 2 ≤ 2; omega⟩,by show 0 < 1 + (y.fdiv 150).fmod 2; omega⟩
  · split at hx
    · rw [List.mem_singleton.mp hx]
      refine ⟨⟨?_,?_,by show 0 ≤ 1 + (y.fdiv 150).fmod 2; omega,by show 1 + (y.fdiv 150).fmod 2 ≤ 2; omega⟩,by show 0 < 1 + (y.fdiv 150).fmod 2; omega⟩
      · show 0 ≤ (if (y.fdiv 5).fmod 5 < y.fmod 5 then (y.fdiv 5).fmod 5 else y.fmod 5)∧(if (y.fdiv 5).fmod 5 < y.fmod 5 then (y.fdiv 5).fmod 5 else y.fmod 5) < 5
        split <;> assumption
      · show 0 ≤ (if (y.fdiv 5).fmod 5 > y.fmod 5 then (y.fdiv 5).fmod 5 else y.fmod 5)∧(if (y.fdiv 5).fmod 5 > y.fmod 5 then (y.fdiv 5).fmod 5 else y.fmod 5) < 5
        split <;> assumption
    · cases hx
theorem stepsF_ok (ns : List Int) : ∀ x ∈ stepsF ns,StepOk x∧0 < x.2.2:=fun x hx=>by
  obtain ⟨y,_,h⟩:=List.mem_flatMap.mp hx
  exact stepOf_ok y x h
section
variable {prog : Program} {w : World} {K : Frag} {mg mb : Str→Option Value} {A : Around} {s : Shared} {E : Value→Shared→Prop}
set_option maxHeartbeats 4000000 in
theorem law_call {v : Value} {ns : List Int} (LK : LawK prog w K mg mb) (hA : Aok 5 A) (hd : A.depth ≤ 599) (hu : A.units ≤ 797) (hfr : A.frames = some []) (hns : ns.length ≤ 63) (G : Gl K mg mb s.heap) (r : Rp s.heap [] v (.list (ns.map .int))) :
    wpAny (model prog w) A (call (.ref 307) [v]) (fun u s'=>u = .bool true∧Keeps s s') E s:=by
  refine call_defP ["script"] (fd:=fdLaw) (body:=bodyOf (topAt 20)) (mg:=mg) (mb:=mb) (binds:=[("script",v)]) (mt:=[]) (hid:=[]) (by have:=hA.dp; lia) LK.fLaw.1 rfl LK.fLaw.2 rfl G (fun _ h=>by cases h) (fun _ h=>by cases h)
    (by kernel_rfl) rfl (by decide) (show ∀ x ∈ (["script"] : List Str),(scopeOf (topAt 20)).names.lookup x = some .local ∨ (scopeOf (topAt 20)).names.lookup x = some .cell from by decide +kernel) fun s₂ env k2 he hF hv=>?_
  have F:=hF [("script",.list (ns.map .int))] (fun y d e=>by
    rcases lookup_put e with ⟨rfl,rfl⟩ | ⟨_,e⟩
    · exact ⟨_,.head _,r⟩
    · cases e)
  have hA1:=hA.deeper env
  have hd1 : (A.deeper env).depth ≤ 600:=by show A.depth + 1 ≤ 600; lia
  have hu1 : (A.deeper env).units ≤ 800:=by show A.units + 3 ≤ 800; lia
  have hfr1 : (A.deeper env).frames = some [env]:=by show A.frames.map _ = _; rw [hfr]; rfl
  have hfe : env.frame = some env.locals:=by rw [he]; rfl
  subst he
  generalize A.deeper (callEnvC fdLaw s.heap.objs.size 307) = A' at hA1 hd1 hu1 hfr1 ⊢
  have hA0 : Aok 0 A':=hA1.le (by decide)
  refine hideQE fun QT ET hQT hET=>?_
  generalize hmE : mtOf (callEnvC fdLaw s.heap.objs.size 307) ++ [] = mE at F
  clear hmE hF hv
  have hm : ∀ b,Loc (callEnvC fdLaw s.heap.objs.size 307) b→b ∈ mE:=fun b hb=>(F.locs b hb).1
  have N:=LK.n
  have hnr:=numbersF_ok ns
  have hnl:=numbersF_len ns
  refine ex_assign (d:=.list ((numbersF ns).map .int)) F (.inr (by kernel_rfl)) (pe_call_f _ _ (by kernel_rfl) LK.nNum LK.fNum.1 rfl (cc_numbers LK.fNum N (hA1.le (by decide)) ns (by lia)) (.cons (pe_name _ rfl) (fun _=>rfl) .nil)) (fun s₃ F₃ _=>?_) (by kernel_rfl)
  generalize numbersF ns = nums at hnr hnl F₃ ⊢
  refine ex_assign (d:=encS (stepsF nums)) F₃ (.inl (by kernel_rfl)) (pe_call_f _ _ (by kernel_rfl) LK.nSteps LK.fSteps.1 rfl (cc_steps LK.fSteps N (hA1.le (by decide)) nums (by lia) hnr) (.cons (pe_name _ rfl) (fun _=>rfl) .nil)) (fun s₄ F₄ _=>?_) (by kernel_rfl)
  have hok:=stepsF_ok nums
  have hst : (stepsF nums).length ≤ 100:=by have:=stepsF_len nums; lia
  generalize stepsF nums = st at hok hst F₄ ⊢
  refine ex_assign (d:=.list ((rowN st 4).map .int)) F₄ (.inl (by kernel_rfl)) (pe_call_f _ _ (by kernel_rfl) LK.nRow LK.fRow.1 rfl (cc_row LK.fRow N (hA1.le (by decide)) st hst) (.cons (pe_name _ rfl) (fun _=>rfl) .nil)) (fun s₅ F₅ _=>?_) (by kernel_rfl)
  have hrow : ∀ n ∈ rowN st 4,0 ≤ n∧n.toNat < nums.length:=fun n hn=>by
    have:=R5_iff.mp (rowN_R5 hn)
    lia
  have hlen:=row_le5 st 4
  have num_at : ∀ n : Int,n.toNat < nums.length→(nums.map PyData.int)[n.toNat]? = some (.int (nums.getD n.toNat 0)):=fun n hn=>by
    rw [List.getElem?_map,List.getD_eq_getElem?_getD,List.getElem?_eq_getElem hn]; rfl
  have goods_e : ∀ l : List Int,(goodsF nums l).map one = (l.filter fun _=>true).map fun n=>one ((nums.getD n.toNat 0).fdiv 300):=fun l=>by
    unfold goodsF
    rw [List.map_map,List.filter_eq_self.mpr (fun _ _=>rfl)]; rfl
  have nopy : ∀ x : Int,Builtin.divisionGoesByPylong x 300 = false:=fun x=>PyProof.noPylong_small (by decide)
  refine ex_assign_compT [(("numbers" : Str),s.heap.objs.size + 1)] (rowN st 4) .int int_inj (fun n=>[("name",.int n)]) [("numbers",.list (nums.map .int))] (fun _=>true) (fun n=>one ((nums.getD n.toNat 0).fdiv 300)) F₅ (by kernel_rfl)
    (src_list hA1.hd (pe_name _ rfl)) (by kernel_rfl) (by decide +kernel) rfl (by decide +kernel) ⟨⟨rfl,.inl (by kernel_rfl),.inl (by kernel_rfl),(by kernel_rfl),by decide⟩,trivial⟩ ?_ ?_ ?_ (by rw [sizeLine_eq]; lia) (fun s₆ F₆ _=>?_) (by kernel_rfl)
  · intro C n _
    exact tgt_name (by kernel_rfl) rfl
  · intro C n _; exact rfl
  · intro C n hn _
    obtain ⟨q0,q1⟩:=hrow n hn
    exact pe_list _ (.cons (pe_fdiv _ (by decide) (nopy _) (pe_subL _ (pe_name _ rfl) (pe_name _ rfl) q0 (by lia) (num_at n q1)) (pe_int 300 _ _)) (fun _=>rfl) .nil)
  rw [← goods_e] at F₆
  refine ex_assign (d:=.list ((goodsF nums (rowN st 4)).map one)) F₆ (.inl (by kernel_rfl)) (pe_name _ rfl) (fun s₇ F₇ _=>?_) (by kernel_rfl)
  have gl : (goodsF nums (rowN st 4)).length ≤ 100:=by unfold goodsF; rw [List.length_map]; lia
  refine ex_for (ds:=([5,0,1,2,3,4] : List Int).map .int) F₇ (src_list hA1.hd (pe_list _ (.cons (pe_int _ _ _) (fun _=>rfl) (.cons (pe_int _ _ _) (fun _=>rfl) (.cons (pe_int _ _ _) (fun _=>rfl) (.cons (pe_int _ _ _) (fun _=>rfl) (.cons (pe_int _ _ _) (fun _=>rfl) (.cons (pe_int _ _ _) (fun _=>rfl) .nil))))))))
    (fun wr i u=>∃ e : List Int,e.length ≤ 100∧Fm K mg mb (hidS s []) (callEnvC fdLaw s.heap.objs.size 307) (wr ++ mE) [("earlier",.list (e.map one)),("whole",.list ((goodsF nums (rowN st 4)).map one)),("row",.list ((rowN st 4).map .int)),("steps",encS st),("numbers",.list (nums.map .int))] u) ?_ ?_ ?_
  · intro wr u k hw hx
    exact ⟨_,gl,(F₇.start k hw hx).to _ ⟨rfl,rfl,rfl,rfl,rfl,trivial⟩⟩
  · intro wr i d v' u₁ u₂ hdd hw zi26 k hex hrv
    obtain ⟨e,hel,J⟩:=zi26
    rw [List.getElem?_map] at hdd
    obtain ⟨held,hheld,rfl⟩:=Option.map_eq_some_iff.mp hdd
    have F2:=J.iter k (F₇.notLoc hw) (F₇.new0 hw) hex
    refine wpAny_assign_Name (F2.store (.inl (by kernel_rfl)) hrv fun u₃ G₃ k₃=>?_)
    refine hideQE fun QL EL hQL hEL=>?_
    refine ex_assign (d:=.list ((behindN st held 5).map .int)) G₃ (.inr (by kernel_rfl)) (pe_call_f _ _ (by kernel_rfl) LK.nBehind LK.fBehind.1 rfl (cc_behind LK.fBehind N (hA1.le (by decide)) st held hst) (.cons (pe_name _ rfl) (fun _=>rfl) (.cons (pe_name _ rfl) (fun _=>rfl) .nil))) (fun u₄ G₄ k₄=>?_) (by kernel_rfl)
    refine ex_run (st:=st) (held:=held) LK (hA1.le (by decide)) hd1 hu1 hfr1 hfe G₄ rfl rfl (by kernel_rfl) (by kernel_rfl) (by kernel_rfl) hok hst fun u₅ b hb G₅ k₅=>?_
    have hbl : b = decide ((rowN st 4).length < 5):=by
      rcases hb with ⟨rfl,h⟩ | ⟨rfl,h⟩
      · have:=acyc_long hok h
        simp [this]
      · have:=cyc_short hok h
        simp [this]
    refine ex_if (b:=false) G₅ ?_ (fun q=>by cases q) fun _ u₆ G₆ k₆=>wpAny_execs_nil ?_
    · refine pt_or (a:=false) (b:=false) _ (pt_neL (ns:=(rowN st 4).filter fun n=>!decide (n ∈ behindN st held 5)) _ hA0 (pe_name _ rfl) ?_) fun _=>?_
      · have ee : ((rowN st 4).filter fun n=>!decide (n ∈ behindN st held 5)).map PyData.int = ((rowN st 4).filter fun n=>!decide (n ∈ behindN st held 5)).map fun n=>.int n:=rfl
        rw [ee]
        refine pe_compT [(("behind" : Str),s.heap.objs.size + 2)] (rowN st 4) .int int_inj (fun n=>[("name",.int n)]) [("behind",.list ((behindN st held 5).map .int))] _ _
          (src_list hA1.hd (pe_name _ rfl)) (by kernel_rfl) (by decide +kernel) rfl (by decide +kernel) ⟨⟨rfl,.inl (by kernel_rfl),.inl (by kernel_rfl),(by kernel_rfl),by decide⟩,trivial⟩ ?_ ?_ ?_ (by rw [sizeLine_eq]; lia)
        · intro C n _
          exact tgt_name (by kernel_rfl) rfl
        · intro C n _
          exact pt_notIn _ hA0 (pe_name _ rfl) (pe_name _ rfl)
        · intro C n _ _
          exact pe_name _ rfl
      · have e2 : (b != decide ((rowN st 4).length < 5)) = false:=by rw [hbl]; simp
        rw [← e2]
        refine pt_neB _ (pe_name _ rfl) ?_
        have e3 : decide ((rowN st 4).length < 5) = decide (((rowN st 4).length : Int) < 5):=by
          congr 1
          exact propext ⟨fun h=>by lia,fun h=>by lia⟩
        rw [e3]
        exact pe_lt _ (pe_call_b _ _ (by kernel_rfl) N.len.1 N.len.2 (cc_lenM (rowN st 4) .int (by lia)) (.cons (pe_name _ rfl) (fun _=>rfl) .nil)) (pe_int 5 _ _)
    · -- the goods handed out
      generalize hout : ((rowN st 4).filter fun n=>!decide (n ∈ behindN st held 5)) = out at G₆
      have hsub : ∀ n ∈ out,n ∈ rowN st 4:=fun n hn=>by rw [← hout] at hn; exact (List.mem_filter.mp hn).1
      have hol : out.length ≤ 5:=by rw [← hout]; exact Nat.le_trans (List.length_filter_le _ _) hlen
      refine ex_assign_compT [(("numbers" : Str),s.heap.objs.size + 1)] out .int int_inj (fun n=>[("name",.int n)]) [("numbers",.list (nums.map .int))] (fun _=>true) (fun n=>one ((nums.getD n.toNat 0).fdiv 300)) G₆ (by kernel_rfl)
        (src_list hA1.hd (pe_name _ rfl)) (by kernel_rfl) (by decide +kernel) rfl (by decide +kernel) ⟨⟨rfl,.inl (by kernel_rfl),.inl (by kernel_rfl),(by kernel_rfl),by decide⟩,trivial⟩ ?_ ?_ ?_ (by rw [sizeLine_eq]; lia) (fun u₇ G₇ k₇=>?_) (by kernel_rfl)
      · intro C n _
        exact tgt_name (by kernel_rfl) rfl
      · intro C n _; exact rfl
      · intro C n hn _
        obtain ⟨q0,q1⟩:=hrow n (hsub n hn)
        exact pe_list _ (.cons (pe_fdiv _ (by decide) (nopy _) (pe_subL _ (pe_name _ rfl) (pe_name _ rfl) q0 (by lia) (num_at n q1)) (pe_int 300 _ _)) (fun _=>rfl) .nil)
      rw [← goods_e] at G₇
      have pl : (goodsF nums out).length ≤ 100:=by unfold goodsF; rw [List.length_map]; lia
      have hA4 : Aok 4 A':=hA1.le (by decide)
      have nr : ∀ {x y : Expr} {f g : List Int} {pos p : Pos} {ρ : List (Str × PyData)},f.length ≤ 100→g.length ≤ 100→PE prog w K mg mb A' (callEnvC fdLaw s.heap.objs.size 307) ρ x (.list (f.map one))→PE prog w K mg mb A' (callEnvC fdLaw s.heap.objs.size 307) ρ y (.list (g.map one)) →
          (∀ rest,starEach (x :: rest) (callEnvC fdLaw s.heap.objs.size 307) = (false,eval x (callEnvC fdLaw s.heap.objs.size 307)) :: starEach rest (callEnvC fdLaw s.heap.objs.size 307))→(∀ rest,starEach (y :: rest) (callEnvC fdLaw s.heap.objs.size 307) = (false,eval y (callEnvC fdLaw s.heap.objs.size 307)) :: starEach rest (callEnvC fdLaw s.heap.objs.size 307)) →
          PE prog w K mg mb A' (callEnvC fdLaw s.heap.objs.size 307) ρ (.Call (.Name "_law_right" p) [x,y] [] pos) (.bool true):=fun hf hg hx hy sx sy =>
        pe_call_f _ _ (by kernel_rfl) LK.nRight LK.fRight.1 rfl (cc_right LK.fRight N LK.right hA4 (by lia) hu1 _ _ hf hg) (.cons hx sx (.cons hy sy .nil))
      refine ex_if (b:=false) G₇ (pt_or3 _ (pt_not (b:=true) _ (pt_pe (nr gl pl (pe_name _ rfl) (pe_name _ rfl) (fun _=>rfl) (fun _=>rfl)))) (pt_not (b:=true) _ (pt_pe (nr pl gl (pe_name _ rfl) (pe_name _ rfl) (fun _=>rfl) (fun _=>rfl)))) (pt_not (b:=true) _ (pt_pe (nr pl hel (pe_name _ rfl) (pe_name _ rfl) (fun _=>rfl) (fun _=>rfl))))) (fun q=>by cases q) fun _ u₈ G₈ k₈=>wpAny_execs_nil ?_
      refine ex_assign (d:=.list ((goodsF nums out).map one)) G₈ (.inl (by kernel_rfl)) (pe_name _ rfl) (fun u₉ G₉ k₉=>wpAny_execs_nil (hQL _ _ ⟨⟨goodsF nums out,pl,G₉.to _ ⟨rfl,rfl,rfl,rfl,rfl,trivial⟩⟩,?_⟩)) (by kernel_rfl)
      exact Kb.trans (k₃.kb' hm) (Kb.trans (k₄.kb' hm) (Kb.trans (k₅ mE hm) (Kb.trans (Kb.of k₆) (Kb.trans (k₇.kb' hm) (Kb.trans (Kb.of k₈) (k₉.kb' hm))))))
  · intro wr u₁ u₂ hw zi27 k
    obtain ⟨e,hel,J⟩:=zi27
    have wm : ∀ b ∈ wr,b ∉ mE:=fun b hb q=>not_mt F₇.mex (hw b hb) q
    have F2:=J.fin k hm wm (F₇.new0 hw)
    exact wpAny_execs_cons (wpAny_Return_some (wpAny_Constant_bool (hQT _ _ ⟨rfl,F2.keep⟩)))
end
end Mine
namespace Mine
open PySem PySem.W PyProof.Rows PySem.Calls
noncomputable def fdSInit : FuncData:=fdS (methAt 11 1) "__init__" "TopologicalSorter.__init__" pmG (.ref 196) (.ref 190) .none
noncomputable def fdNInit : FuncData:=fdS (methAt 9 1) "__init__" "_NodeInfo.__init__" pmG (.ref 159) .none .none
structure MakeK (prog : Program) (w : World) (K : Frag) : Prop where
  gl : ∀ h : Heap,K.In h→∃ mg mb,Gl K mg mb h
  sk : SoK K
  m1 : makesIn K 261 = true
  i1 : findIn K (.ref 261) "__init__" = some (some (.ref 197))
  f1 : typeIn K (.ref 197) = some (.type "function")
  d1 : FnAt K 197 fdSInit
  p1 : ∀ a : Addr,peek K ⟨prog,w.params⟩ (bindArgs fdSInit ⟨[.ref a],[]⟩) = some ([("self",.ref a),("graph",.none)] : List (Str × Value))
  m2 : makesIn K 164 = true
  i2 : findIn K (.ref 164) "__init__" = some (some (.ref 160))
  f2 : typeIn K (.ref 160) = some (.type "function")
  d2 : FnAt K 160 fdNInit
section
variable {prog : Program} {w : World} {K : Frag}
theorem in_hid {h : Heap} {l : List Addr} (X : K.In h) (hn : ∀ a o,K.lookup a = some o→a ∉ l) : K.In (hideAll h l):=fun a o e=>hideAll_get l (X a o e) (hn a o e)
theorem sort_new (H : MakeK prog w K) : SortNew prog w K:=fun E s Q X P=>by
  obtain ⟨hh,gg,dr,tk,os⟩:=s
  have n1 : ∀ b o,hh.get? b = some o→b < hh.objs.size:=fun b o e=>Heap.lt_size e
  refine wpAny_call (make_core (makes_of X H.m1) (looks_findIn X H.i1) (fun self=>bind_fn X self H.f1) (.inl rfl) ?_)
  generalize hD : hh.objs.size = D at n1 ⊢
  have k0 : ∀ b o,hh.get? b = some o→((hh.push emptyDict).push (instObj 261 D)).get? b = some o:=fun b o e=>Heap.get?_push_of_some _ (Heap.get?_push_of_some _ e)
  have gS : ((hh.push emptyDict).push (instObj 261 D)).get? (D + 1) = some (instObj 261 D):=by rw [← hD]; heap_get
  have gD : ((hh.push emptyDict).push (instObj 261 D)).get? D = some emptyDict:=by rw [← hD]; heap_get
  generalize (hh.push emptyDict).push (instObj 261 D) = h1 at k0 gS gD ⊢
  have X1 : K.In h1:=fun a o e=>k0 a o (X a o e)
  have KD : ∀ a o,K.lookup a = some o→a ≠ D:=fun a o e=>Nat.ne_of_lt (n1 a o (X a o e))
  refine e2a1 (H.gl (hideAll h1 [D]) (in_hid X1 fun a o e q=>KD a o e (List.mem_singleton.mp q))) fun mg mb G=>?_
  refine codeAny_mono (call_defGC (Q:=fun v s'=>v = .none∧Q (.ref (D + 1)) s') (E:=E) (mt:=[D]) (hid:=[D]) ["self","graph"] (fun b _=>b = ([("self",.ref (D + 1)),("graph",.none)] : List (Str × Value))) (by decide +kernel) H.d1.1 rfl H.d1.2 rfl G (fun b hb=>hb) (fun b hb=>by rw [List.mem_singleton.mp hb]; exact ⟨_,gD⟩)
    (fun E'=>(Looks.of_peek (M:=model prog w) X1 (H.p1 (D + 1))).here ⟨Keeps.rfl',rfl,rfl⟩) (by decide) (show ∀ x ∈ (["self","graph"] : List Str),(scopeOf (methAt 11 1)).names.lookup x = some .local ∨ (scopeOf (methAt 11 1)).names.lookup x = some .cell from by decide +kernel)
    fun b s₁ s₂ env hb k1 k2 he _ hv=>?_) fun r s' z=>?_
  · subst hb
    have V:=hv "self" _ (.head _)
    have Vg:=hv "graph" _ (.tail _ (.head _))
    refine e2a2 k1 fun h2 t2 zr284 q1=>?_
    subst zr284
    refine e2a2 k2 fun h3 t3 zr285 q2=>?_
    subst zr285
    dsimp only at q1 q2 V Vg he ⊢
    have q3 : ∀ b o,h1.get? b = some o→h3.get? b = some o:=fun b o e=>q2 b o (q1 b o e)
    have LD : ∀ b ∈ [D],¬ Loc env b:=fun b hb hl=>by
      rw [List.mem_singleton.mp hb] at hl
      rcases hl with q | ⟨y,q⟩
      · have l:=Heap.lt_size (q1 _ _ gD)
        have e : env.locals = h2.objs.size:=by rw [he]; rfl
        exact Nat.lt_irrefl _ (Nat.lt_of_lt_of_eq l (q.trans e).symm)
      · have e : env.cells = []:=by rw [he]; kernel_rfl
        rw [e] at q; cases q
    have hd : (clsIn K 261).any (·.hasDict) = true:=by obtain ⟨cd,hc,hd⟩:=H.sk.hd; rw [hc]; exact hd
    have mv : ∀ {y : Str} {v : Value} {g g' : Heap},Var env g y v→Heap.SameBut D g g'→Var env g' y v:=fun {y v g g'} a k =>
      Var.kb (s₁:=⟨g,gg,dr,0,os⟩) (s₂:=⟨g',gg,dr,0,os⟩) a ⟨g',0,rfl,fun b o hb e'=>k.extBut b o (fun q=>hb (q ▸ .head _)) e'⟩ LD
    have sn : D + 1 ≠ D:=by lia
    refine wpAny_execs_cons (plainObj_wpAny_Assign_Attribute (wpAny_Dict_empty (wpAny_Name ((V.ext fun _ _ e=>Heap.get?_push_of_some _ e).load ?_) (by decide))) (by kernel_rfl))
    have nN : h1.get? h3.objs.size = none:=by
      cases q : h1.get? h3.objs.size with
      | none=>rfl
      | some o=>exact absurd (Heap.lt_size (q3 _ _ q)) (Nat.lt_irrefl _)
    have gN : (h3.push emptyDict).get? h3.objs.size = some emptyDict:=by heap_get
    have q4 : ∀ b o,h1.get? b = some o→(h3.push emptyDict).get? b = some o:=fun b o e=>Heap.get?_push_of_some _ (q3 b o e)
    have V4:=V.ext (h':=h3.push emptyDict) fun _ _ e=>Heap.get?_push_of_some _ e
    have Vg4:=Vg.ext (h':=h3.push emptyDict) fun _ _ e=>Heap.get?_push_of_some _ e
    generalize h3.objs.size = N at nN gN ⊢
    generalize h3.push emptyDict = h4 at gN q4 V4 Vg4 ⊢
    have ND : N ≠ D:=fun q=>by rw [q,gD] at nN; cases nN
    refine inst_setG (C:=261) (es:=[]) (n:=0) (fun a o e=>q4 _ _ (X1 a o e)) ⟨q4 _ _ gS,rfl,rfl,q4 _ _ gD⟩ rfl H.sk.sa H.sk.po (taker_none H.sk.n1) hd (by kernel_rfl) (fun _=>by show 1 ≤ 1001; decide) fun h5 k5 t5 e5 s5=>?_
    have V5:=mv V4 s5
    have Vg5:=mv Vg4 s5
    have X5 : K.In h5:=fun a o e=>s5.extBut _ _ (KD a o e) (q4 _ _ (X1 a o e))
    refine wpAny_execs_cons (plainObj_wpAny_Assign_Attribute (wpAny_Constant_none (wpAny_Name (V5.load ?_) (by decide))) (by kernel_rfl))
    refine inst_setG (C:=261) X5 ⟨s5.extBut _ _ sn (q4 _ _ gS),rfl,rfl,e5⟩ rfl H.sk.sa H.sk.po (taker_none H.sk.n2) hd (by kernel_rfl) (fun _=>by show 2 ≤ 1001; decide) fun h6 k6 t6 e6 s6=>?_
    have V6:=mv V5 s6
    have Vg6:=mv Vg5 s6
    have X6 : K.In h6:=fun a o e=>s6.extBut _ _ (KD a o e) (X5 a o e)
    refine wpAny_execs_cons (plainObj_wpAny_Assign_Attribute (wpAny_Constant_int (wpAny_Name (V6.load ?_) (by decide))) (by kernel_rfl))
    refine inst_setG (C:=261) X6 ⟨s6.extBut _ _ sn (s5.extBut _ _ sn (q4 _ _ gS)),rfl,rfl,e6⟩ rfl H.sk.sa H.sk.po (taker_none H.sk.n3) hd (by kernel_rfl) (fun _=>by show 3 ≤ 1001; decide) fun h7 k7 t7 e7 s7=>?_
    have V7:=mv V6 s7
    have Vg7:=mv Vg6 s7
    have X7 : K.In h7:=fun a o e=>s7.extBut _ _ (KD a o e) (X6 a o e)
    refine wpAny_execs_cons (plainObj_wpAny_Assign_Attribute (wpAny_Constant_int (wpAny_Name (V7.load ?_) (by decide))) (by kernel_rfl))
    refine inst_setG (C:=261) X7 ⟨s7.extBut _ _ sn (s6.extBut _ _ sn (s5.extBut _ _ sn (q4 _ _ gS))),rfl,rfl,e7⟩ rfl H.sk.sa H.sk.po (taker_none H.sk.n4) hd (by kernel_rfl) (fun _=>by show 4 ≤ 1001; decide) fun h8 k8 t8 e8 s8=>?_
    have Vg8:=mv Vg7 s8
    have q8 : ∀ b o,b ≠ D→h4.get? b = some o→h8.get? b = some o:=fun b o hb e=>s8.extBut _ _ hb (s7.extBut _ _ hb (s6.extBut _ _ hb (s5.extBut _ _ hb e)))
    refine wpAny_execs_cons (wpAny_If (wpAny_isTrue_Compare1 (wpAny_Name (Vg8.load (wpAny_Constant_none (isNot_none (wpAny_truthy_bool ?_)))) (by decide))))
    refine wpAny_execs_nil (wpAny_execs_nil ⟨rfl,?_⟩)
    refine P (D + 1) D N ⟨PyData.keyHash w.params "_node2info",PyData.keyHash w.params "_ready_nodes",PyData.keyHash w.params "_npassedout",PyData.keyHash w.params "_nfinished",t5,t6,t7,t8,4⟩ k6 k7 h8 k8 (fun b o e=>q8 b o (Nat.ne_of_lt (n1 b o e)) (q4 b o (k0 b o e))) ?_ ?_ ?_ (q8 _ _ sn (q4 _ _ gS)) ?_ (q8 _ _ ND gN)
    · cases q : hh.get? (D + 1) with
      | none=>rfl
      | some o=>exact absurd (Nat.lt_of_succ_lt (n1 _ _ q)) (Nat.lt_irrefl _)
    · cases q : hh.get? D with
      | none=>rfl
      | some o=>exact absurd (n1 _ _ q) (Nat.lt_irrefl _)
    · cases q : hh.get? N with
      | none=>rfl
      | some o=>rw [k0 _ _ q] at nN; cases nN
    · rw [e8]; kernel_rfl
  · rcases r with e | (v | _ | _ | _) <;> first | exact z | exact z.elim
end
end Mine
namespace Mine
open PySem PySem.W PyProof.Rows PySem.Calls
section
variable {prog : Program} {w : World} {K : Frag}
theorem node_new (H : MakeK prog w K) : NodeNew prog w K:=fun E s Q k t X P=>by
  obtain ⟨hh,gg,dr,tk,os⟩:=s
  have n1 : ∀ b o,hh.get? b = some o→b < hh.objs.size:=fun b o e=>Heap.lt_size e
  refine wpAny_call (make_core (makes_of X H.m2) (looks_findIn X H.i2) (fun self=>bind_fn X self H.f2) (.inl rfl) ?_)
  generalize hD : hh.objs.size = D at n1 ⊢
  have k0 : ∀ b o,hh.get? b = some o→((hh.push emptyDict).push (instObj 164 D)).get? b = some o:=fun b o e=>Heap.get?_push_of_some _ (Heap.get?_push_of_some _ e)
  have gS : ((hh.push emptyDict).push (instObj 164 D)).get? (D + 1) = some (instObj 164 D):=by rw [← hD]; heap_get
  have gD : ((hh.push emptyDict).push (instObj 164 D)).get? D = some emptyDict:=by rw [← hD]; heap_get
  generalize (hh.push emptyDict).push (instObj 164 D) = h1 at k0 gS gD ⊢
  have X1 : K.In h1:=fun a o e=>k0 a o (X a o e)
  have KD : ∀ a o,K.lookup a = some o→a ≠ D + 1:=fun a o e=>Nat.ne_of_lt (Nat.lt_succ_of_lt (n1 a o (X a o e)))
  refine e2a1 (H.gl (hideAll h1 [D + 1]) (in_hid X1 fun a o e q=>KD a o e (List.mem_singleton.mp q))) fun mg mb G=>?_
  have hbi : bindArgs fdNInit ⟨[.ref (D + 1),.int k t],[]⟩ = pure ([("self",.ref (D + 1)),("node",.int k t)] : List (Str × Value)):=by kernel_rfl
  refine codeAny_mono (call_defGC (Q:=fun v s'=>v = .none∧Q (.ref (D + 1)) s') (E:=E) (mt:=[D + 1]) (hid:=[D + 1]) ["self","node"] (fun b _=>b = ([("self",.ref (D + 1)),("node",.int k t)] : List (Str × Value))) (by show 900 + Code.weight (.builtin "type.__call__" ⟨[.ref 164,.int k t],[]⟩) < recursionLimit; first | (rw [show Code.weight (.builtin "type.__call__" ⟨[.ref 164,.int k t],[]⟩) = 1 from by kernel_rfl]; decide +kernel) | (rw [show Code.weight (.builtin "type.__call__" ⟨[.ref 164,.int k t],[]⟩) = 0 from by kernel_rfl]; decide +kernel)) H.d2.1 rfl H.d2.2 rfl G (fun b hb=>hb) (fun b hb=>by rw [List.mem_singleton.mp hb]; exact ⟨_,gS⟩)
    (fun E'=>by rw [hbi]; exact wpAny_pure ⟨Keeps.rfl',rfl,rfl⟩) (by decide) (show ∀ x ∈ (["self","node"] : List Str),(scopeOf (methAt 9 1)).names.lookup x = some .local ∨ (scopeOf (methAt 9 1)).names.lookup x = some .cell from by decide +kernel)
    fun b s₁ s₂ env hb k1 k2 he _ hv=>?_) fun r s' z=>?_
  · subst hb
    have V:=hv "self" _ (.head _)
    have Vn:=hv "node" _ (.tail _ (.head _))
    refine e2a2 k1 fun h2 t2 zr329 q1=>?_
    subst zr329
    refine e2a2 k2 fun h3 t3 zr330 q2=>?_
    subst zr330
    dsimp only at q1 q2 V Vn he ⊢
    have q3 : ∀ b o,h1.get? b = some o→h3.get? b = some o:=fun b o e=>q2 b o (q1 b o e)
    have LD : ∀ b ∈ [D + 1],¬ Loc env b:=fun b hb hl=>by
      rw [List.mem_singleton.mp hb] at hl
      rcases hl with q | ⟨y,q⟩
      · have l:=Heap.lt_size (q1 _ _ gS)
        have e : env.locals = h2.objs.size:=by rw [he]; rfl
        exact Nat.lt_irrefl _ (Nat.lt_of_lt_of_eq l (q.trans e).symm)
      · have e : env.cells = []:=by rw [he]; kernel_rfl
        rw [e] at q; cases q
    have mv : ∀ {y : Str} {v : Value} {g g' : Heap},Var env g y v→Heap.SameBut (D + 1) g g'→Var env g' y v:=fun {y v g g'} a k =>
      Var.kb (s₁:=⟨g,gg,dr,0,os⟩) (s₂:=⟨g',gg,dr,0,os⟩) a ⟨g',0,rfl,fun b o hb e'=>k.extBut b o (fun q=>hb (q ▸ .head _)) e'⟩ LD
    have sn : D ≠ D + 1:=Nat.ne_of_lt (Nat.lt_succ_self D)
    refine e1a1 H.sk.s2 fun p0 T0=>?_
    refine e1a1 H.sk.s1 fun p1 T1=>?_
    refine e1a1 H.sk.s0 fun p2 T2=>?_
    refine wpAny_execs_cons (plainObj_wpAny_Assign_Attribute (wpAny_Name (Vn.load (wpAny_Name (V.load ?_) (by decide))) (by decide)) (by kernel_rfl))
    refine slot_put (C:=164) (od:=some emptyDict) (fun a o e=>q3 _ _ (X1 a o e)) ⟨q3 _ _ gS,rfl,rfl,q3 _ _ gD⟩ H.sk.nsa H.sk.npo T0.tk T0.ty T0.sl (by decide) rfl fun h5 k5 e5 s5=>?_
    have e5 : h5.get? (D + 1) = some { cls:=.ref 164,dict:=some D,data:=.plain,slots:=#[some (.int k t)] }:=by rw [e5]; kernel_rfl
    have V5:=mv V s5
    have X5 : K.In h5:=fun a o e=>s5.extBut _ _ (KD a o e) (q3 _ _ (X1 a o e))
    have gD5:=s5.extBut _ _ sn (q3 _ _ gD)
    refine wpAny_execs_cons (plainObj_wpAny_Assign_Attribute (wpAny_Constant_int (wpAny_Name (V5.load ?_) (by decide))) (by kernel_rfl))
    refine slot_put (C:=164) (od:=some emptyDict) X5 ⟨e5,rfl,rfl,gD5⟩ H.sk.nsa H.sk.npo T1.tk T1.ty T1.sl (by decide) rfl fun h6 k6 e6 s6=>?_
    have e6 : h6.get? (D + 1) = some { cls:=.ref 164,dict:=some D,data:=.plain,slots:=#[some (.int k t),some (.int 0 k5)] }:=by rw [e6]; kernel_rfl
    have V6:=mv V5 s6
    have X6 : K.In h6:=fun a o e=>s6.extBut _ _ (KD a o e) (X5 a o e)
    have gD6:=s6.extBut _ _ sn gD5
    have q6 : ∀ b o,b ≠ D + 1→h1.get? b = some o→h6.get? b = some o:=fun b o hb e=>s6.extBut _ _ hb (s5.extBut _ _ hb (q3 b o e))
    refine wpAny_execs_cons (plainObj_wpAny_Assign_Attribute (wpAny_List (wpAny_items_nil ⟨by decide,wpAny_Name ((V6.ext fun _ _ e=>Heap.get?_push_of_some _ e).load ?_) (by decide)⟩)) (by kernel_rfl))
    have nL : h6.get? h6.objs.size = none:=by
      cases q : h6.get? h6.objs.size with
      | none=>rfl
      | some o=>exact absurd (Heap.lt_size q) (Nat.lt_irrefl _)
    have gL : (h6.push { cls:=.type "list",data:=.seq (List.toArray []) }).get? h6.objs.size = some { cls:=.type "list",data:=.seq (List.toArray []) }:=by heap_get
    have q7 : ∀ b o,h6.get? b = some o→(h6.push { cls:=.type "list",data:=.seq (List.toArray []) }).get? b = some o:=fun b o e=>Heap.get?_push_of_some _ e
    dsimp only at gL q7 ⊢
    generalize h6.objs.size = L at nL gL ⊢
    generalize h6.push { cls:=.type "list",data:=.seq (List.toArray []) } = h7 at gL q7 ⊢
    have LI : L ≠ D + 1:=fun q=>by rw [q,e6] at nL; cases nL
    refine slot_put (C:=164) (od:=some emptyDict) (fun a o e=>q7 _ _ (X6 a o e)) ⟨q7 _ _ e6,rfl,rfl,q7 _ _ gD6⟩ H.sk.nsa H.sk.npo T2.tk T2.ty T2.sl (by decide) rfl fun h8 k8 e8 s8=>?_
    refine wpAny_execs_nil ⟨rfl,?_⟩
    refine P (D + 1) L D k5 h8 k8 (fun b o e=>s8.extBut _ _ (Nat.ne_of_lt (Nat.lt_succ_of_lt (n1 b o e))) (q7 _ _ (q6 b o (Nat.ne_of_lt (Nat.lt_succ_of_lt (n1 b o e))) (k0 b o e)))) ?_ ?_ ?_ ?_ (s8.extBut _ _ LI gL) (s8.extBut _ _ sn (q7 _ _ gD6))
    · cases q : hh.get? (D + 1) with
      | none=>rfl
      | some o=>exact absurd (Nat.lt_of_succ_lt (n1 _ _ q)) (Nat.lt_irrefl _)
    · cases q : hh.get? L with
      | none=>rfl
      | some o=>rw [q6 _ _ LI (k0 _ _ q)] at nL; cases nL
    · cases q : hh.get? D with
      | none=>rfl
      | some o=>exact absurd (n1 _ _ q) (Nat.lt_irrefl _)
    · rw [e8]; kernel_rfl
  · rcases r with e | (v | _ | _ | _) <;> first | exact z | exact z.elim
end
end Mine
namespace Mine
open PySem PySem.W PyProof.Rows PySem.Calls
noncomputable def fdMNew (doc : Value) : FuncData:=fdS (methAt 3 4) "__new__" "Mismatch.__new__" (.str "cpy313.unittest.util" 194) (.ref 81) .none doc
structure MisMk (prog : Program) (w : World) (K : Frag) : Prop where
  gl : ∀ h : Heap,K.In h→∃ mg mb,Gl K mg mb h∧mg "tuple" = none∧mb "tuple" = some (.type "tuple")
  cls : ∃ oc od cd sl,K.lookup 135 = some ⟨oc,od,.cls cd,sl⟩∧cd.mro.isEmpty = false∧cd.hasDel = false
  made : peek K ⟨prog,w.params⟩ (Bind.madeBy (.ref 135)) = some none
  call : specialIn K (.ref 135) "__call__" = some (some (.builtin "type.__call__"))
  typ : instIn K (.ref 135) (.type "type") = some true
  rd : readsIn K 135 (.type "type") = true
  nw : findCls K (.ref 135) (.type "type") "__new__" = some (.get (.builtin "staticmethod.__get__") (.ref 136) .none (.ref 135))
  sm : recIn K 136 "staticmethod" = some [.ref 82]
  fn : ∃ doc,FnAt K 82 (fdMNew doc)
  slf : mroIn K 135 (.ref 135) = some true
  tup : mroIn K 135 (.type "tuple") = some true
  obj : mroIn K 135 (.type "object") = some true
  ini : findIn K (.ref 135) "__init__" = some (some (.builtin "object.__init__"))
  isT : peek K ⟨prog,w.params⟩ (isType (.ref 135)) = some true
  here : peek K ⟨prog,w.params⟩ (Bind.madeHere "tuple.__new__" (.ref 135)) = some ()
  chk : ∀ t : Addr,peek K ⟨prog,w.params⟩ (checkBuiltinCall "tuple.__new__" ⟨[.ref 135,.ref t],[]⟩) = some ()
  tga : findIn K (.type "type") "__getattribute__" = some (some (.builtin "type.__getattribute__"))
  tnew : findCls K (.type "tuple") (.type "type") "__new__" = some (.val (.builtin "tuple.__new__"))
section
variable {prog : Program} {w : World} {K : Frag} {A : Around} {s : Shared} {E : Value→Shared→Prop} {Q : Value→Shared→Prop}
theorem tnew_call {t : Addr} {n : Nat} {x0 x1 x2 : Value} (H : MisMk prog w K) (X : K.In s.heap) (ht : s.heap.get? t = some { cls:=.type "tuple",data:=.seq #[x0,x1,x2] n })
    (h : ∀ h' a dd,(∀ b o,s.heap.get? b = some o→h'.get? b = some o)→s.heap.get? a = none→s.heap.get? dd = none→h'.get? a = some { cls:=.ref 135,dict:=some dd,data:=.seq #[x0,x1,x2] 0 }→h'.get? dd = some emptyD→Q (.ref a) { s with heap:=h' }) :
    wpAny (model prog w) A (call (.builtin "tuple.__new__") [.ref 135,.ref t]) Q E s:=by
  refine wpAny_call (codeAny_call_builtin PySem.F.plain_tuple_new PySem.F.entry_tuple_new ((Looks.of_peek (M:=model prog w) X (H.chk t)).here ?_))
  unfold Builtin.«tuple.__new__»
  refine wpAny_bind ((Looks.of_peek (M:=model prog w) X H.isT).here ?_)
  rw [if_neg (by decide)]
  refine wpAny_bind ((looks_mroIn (M:=model prog w) X H.tup).here ?_)
  rw [if_neg (by decide)]
  refine wpAny_bind ((Looks.of_peek (M:=model prog w) X H.here).here ?_)
  refine wpAny_bind ((looks_findIn (M:=model prog w) X H.ini).here ?_)
  show wpAny _ _ (noKeywords "tuple" ⟨[.ref 135,.ref t],[]⟩ >>= _) _ _ _
  refine wpAny_bind (wpAny_of_eq (a:=()) (by kernel_rfl) ?_)
  show wpAny _ _ (checkCount "tuple" 0 1 [Value.ref t].length >>= _) _ _ _
  refine wpAny_bind (wpAny_of_eq (a:=()) (by kernel_rfl) ?_)
  show wpAny _ _ (collect (.ref t) >>= _) _ _ _
  refine hideG fun zD zhD=>?_
  refine e4a3 H.cls fun oc od cd sl hC e1 e2=>?_
  refine zhD ?_
  clear zhD zD
  refine wpAny_bind (wpAny_collect_seq t (T := "tuple") (.inr rfl) ht rfl rfl (fun h1 k1=>?_) (by show 3 ≤ sizeLine; decide))
  refine wpAny_bind (wpAny_pure ?_)
  show wpAny _ _ (alloc emptyD >>= _) _ _ _
  refine wpAny_bind (wpAny_alloc ?_)
  show wpAny _ _ (newObjAsIs (.ref 135) (.seq #[x0,x1,x2]) (some h1.objs.size) >>= _) _ _ _
  unfold newObjAsIs classHasDel
  have hC1 : h1.get? 135 = some ⟨oc,od,.cls cd,sl⟩:=k1 _ _ (X _ _ hC)
  refine wpAny_bind (wpAny_bind (wpAny_alloc (wpAny_bind (wpAny_bind (wpAny_load (Heap.get?_push_of_some _ (Heap.get?_push_of_some _ hC1)) (wpAny_pure ?_))))))
  dsimp only
  rw [e2]
  refine wpAny_pure (wpAny_pure ?_)
  have new : ∀ b,h1.objs.size ≤ b→s.heap.get? b = none:=fun b hb=>by
    cases q : s.heap.get? b with
    | none=>rfl
    | some o=>exact absurd (Heap.lt_size (k1 _ _ q)) (Nat.not_lt.mpr hb)
  refine h _ _ _ (fun b o e=>Heap.get?_push_of_some _ (Heap.get?_push_of_some _ (k1 b o e))) (new _ ?_) (new _ (Nat.le_refl _)) (Heap.get?_push_size _ rfl) (Heap.get?_push_of_some _ (Heap.get?_push_size _ rfl))
  show h1.objs.size ≤ (h1.push _).objs.size
  rw [Heap.size_push]; exact Nat.le_succ _
theorem mis_init {a : Addr} {o : Obj} {x0 x1 x2 : Value} (H : MisMk prog w K) (X : K.In s.heap) (ha : s.heap.get? a = some o) (hc : o.cls = .ref 135) (h : Q .none s) : wpAny (model prog w) A (call (.builtin "object.__init__") [.ref a,x0,x1,x2]) Q E s:=by
  have ty : Looks (model prog w) s.heap (typeOf (.ref a)) (.ref 135):=hc ▸ (Looks.ld ha).andThen .now
  have hi : Looks (model prog w) s.heap (isInstance (.ref a) (.type "object")) true:=ty.andThen (looks_mroIn X H.obj)
  have hargs : argsOk "object.__init__" ⟨[.ref a,x0,x1,x2],[]⟩:=by unfold argsOk; kernel_rfl
  refine wpAny_call (codeAny_call_builtin oi_plain entry_oi (@check_slot (model prog w) _ _ _ "object.__init__" "object" "__init__" (.ref a) [x0,x1,x2] [] _ oi_kind oi_split hi hargs ?_))
  unfold Builtin.«object.__init__»
  dsimp only
  rw [if_pos (by rfl)]
  refine wpAny_bind (ty.here ?_)
  refine wpAny_bind ((looks_findIn (M:=model prog w) X H.ini).here ?_)
  refine wpAny_bind ((Looks.of_peek (M:=model prog w) X H.made).here ?_)
  rw [show (some (Value.builtin "object.__init__") != some (Value.builtin "object.__init__")) = false from by decide +kernel,show ((none : Option String) != some "object.__new__") = true from by decide +kernel]
  rw [if_neg (by decide),if_neg (by simp)]
  exact wpAny_pure h
set_option maxHeartbeats 2000000 in
theorem mis_new (H : MisMk prog w K) : MisNew prog w K:=fun E s Q i j t u b X P=>by
  refine hideG fun zD zhD=>?_
  obtain ⟨hh,gg,dr,tk,os⟩:=s
  refine e4a3 H.cls fun oc od cd sl hC e1 e2=>?_
  refine zhD ?_
  clear zhD zD
  refine wpAny_call (codeAny_of_tree ?_)
  show wpAny _ _ (callAny (.ref 135) _) _ _ _
  refine nd_load (X _ _ hC) ?_
  show wpAny _ _ (callAny.viaDunder (.ref 135) _) _ _ _
  unfold callAny.viaDunder
  refine wpAny_bind ((looks_specialIn (M:=model prog w) X H.call).at ?_)
  dsimp only
  rw [tc_bind]
  refine wpAny_bind (wpAny_pure (wpAny_bind (wpAny_pure ?_)))
  refine wpAny_pure (a:=Fin.again (.call (.builtin "type.__call__") ⟨.ref 135 :: [.int i t,.int j u,.ref b],[]⟩)) (And.intro rfl ?_)
  refine codeAny_call_builtin_at (Code.quiet_builtin _ (by decide +kernel)) entry_typeCall (check_slot tc_kind tc_split (looks_instIn X H.typ) (tc_args _ _ _) ?_)
  unfold Builtin.«type.__call__»
  have hm : Looks (model prog w) hh (mroOf (.ref 135)) cd.mro:=((Looks.ld (part:=none) (X _ _ hC)).andThen .now).andThen .now
  show wpAny _ _ (mroOf (.ref 135) >>= _) _ _ _
  refine wpAny_bind (hm.at ?_)
  rw [e1,if_neg (by decide)]
  refine wpAny_bind ((Looks.of_peek (M:=model prog w) X H.made).at ?_)
  refine wpAny_bind (cls_bind (C:=135) X H.rd H.nw (wpAny_call (sm_get X H.sm ?_)))
  refine handed_on (by rfl) ?_
  show wpAny _ _ (holding [.ref 82] (call (.ref 82) [.ref 135,.int i t,.int j u,.ref b]) >>= _) _ _ _
  dsimp only
  have hw : (AX.under (Code.builtin "type.__call__" ⟨[.ref 135,.int i t,.int j u,.ref b],[]⟩)).depth ≤ 901∧(AX.under (Code.builtin "type.__call__" ⟨[.ref 135,.int i t,.int j u,.ref b],[]⟩)).handled = none:=by
    refine ⟨?_,rfl⟩
    show 900 + Code.weight (.builtin "type.__call__" ⟨[.ref 135,.int i t,.int j u,.ref b],[]⟩) ≤ 901
    rw [show Code.weight (.builtin "type.__call__" ⟨[.ref 135,.int i t,.int j u,.ref b],[]⟩) = 1 from by kernel_rfl]; decide
  revert hw
  refine genA (AX.under (Code.builtin "type.__call__" ⟨[.ref 135,.int i t,.int j u,.ref b],[]⟩)) fun A hw=>?_
  refine hideG fun zD zhD=>?_
  refine e2a2 (H.gl hh X) fun mg mb G gt=>?_
  refine e1a2 H.fn fun doc H1 H2=>?_
  refine zhD ?_
  clear zhD zD
  have hbi : bindArgs (fdMNew doc) ⟨[.ref 135,.int i t,.int j u,.ref b],[]⟩ = pure ([("_cls",.ref 135),("actual",.int i t),("expected",.int j u),("value",.ref b)] : List (Str × Value)):=by kernel_rfl
  have mk : ∀ {E' : Value→Shared→Prop} {Q' : Value→Shared→Prop},(∀ h' a dd tk',(∀ b o,hh.get? b = some o→h'.get? b = some o)→hh.get? a = none→hh.get? dd = none→h'.get? a = some { cls:=.ref 135,dict:=some dd,data:=.seq #[.int i t,.int j u,.ref b] 0 }→h'.get? dd = some emptyD→Q' (.ref a) ⟨h',gg,dr,tk',os⟩) →
      wpAny (model prog w) A (call (.ref 82) [.ref 135,.int i t,.int j u,.ref b]) Q' E' ⟨hh,gg,dr,tk + 1,os⟩:=fun {E' Q'} hq=>by
    refine call_defP (s:=⟨hh,gg,dr,tk + 1,os⟩) ["_cls","actual","expected","value"] (fd:=fdMNew doc) (body:=bodyOf (methAt 3 4)) (mg:=mg) (mb:=mb) (mt:=[]) (hid:=[]) (by have:=hw.1; show _ < 1000; lia) H1 rfl H2 rfl G (fun _ h=>by cases h) (fun _ h=>by cases h)
      hbi rfl (by decide) (show ∀ x ∈ (["_cls","actual","expected","value"] : List Str),(scopeOf (methAt 3 4)).names.lookup x = some .local ∨ (scopeOf (methAt 3 4)).names.lookup x = some .cell from by decide +kernel) fun s₂ env k2 he hF hv=>?_
    have F:=hF [] (fun y d e=>nomatch e)
    have V1:=hv "_cls" _ (.head _)
    have V2:=hv "actual" _ (.tail _ (.head _))
    have V3:=hv "expected" _ (.tail _ (.tail _ (.head _)))
    have V4:=hv "value" _ (.tail _ (.tail _ (.tail _ (.head _))))
    have kd : ∀ x,env.kindOf x = (scopeOf (methAt 3 4)).names.lookup x:=fun x=>by rw [he]; rfl
    have hi : interactive env = false:=by rw [he]; kernel_rfl
    refine genA (A.deeper env) fun A'=>?_
    refine hideG fun zD zhD=>?_
    refine e2a2 k2 fun h2 t2 zr239 q2=>?_
    subst zr239
    refine zhD ?_
    clear zhD zD
    dsimp only at q2
    have X2 : K.In h2:=fun a o e=>q2 _ _ (X a o e)
    refine wpAny_execs_cons (wpAny_Expr (wpAny_Constant_str ?_) hi rfl)
    refine wpAny_execs_cons (wpAny_Return_some (call_attr rfl (by rfl) (by rfl) (nm_b (F.keeps (Keeps.tok _)).sv (by rw [kd]; kernel_rfl) gt.1 gt.2 fun pl=>?_)))
    refine meth_type (T := "tuple") (name := "__new__") (v:=.builtin "tuple.__new__") X2 (by kernel_rfl) (by kernel_rfl) H.tga H.tnew (by kernel_rfl) ?_
    refine callWith_builtin rfl (args2 (wpAny_Name (Var.load (s:=⟨h2,gg,dr,t2 + 1 + 1,os⟩) V1 ?_) (by decide)))
    refine wpAny_Tuple (wpAny_items_cons (wpAny_Name (Var.load (s:=⟨h2,gg,dr,t2 + 1 + 1,os⟩) V2 (wpAny_items_cons (wpAny_Name (Var.load (s:=⟨h2,gg,dr,t2 + 1 + 1,os⟩) V3 (wpAny_items_cons (wpAny_Name (Var.load (s:=⟨h2,gg,dr,t2 + 1 + 1,os⟩) V4 (wpAny_items_nil ⟨by show 3 ≤ sizeLine; decide,?_⟩)) (by decide)) rfl)) (by decide)) rfl)) (by decide)) rfl)
    refine tnew_call (s:=⟨h2.push { cls:=.type "tuple",data:=.seq [Value.int i t,.int j u,.ref b].toArray },gg,dr,t2 + 1 + 1,os⟩) H (fun a o e=>Heap.get?_push_of_some _ (X2 a o e)) (Heap.get?_push_size _ rfl) fun h' a dd k na nd ga gd=>?_
    have old : ∀ y o,hh.get? y = some o→(h2.push { cls:=.type "tuple",data:=.seq [Value.int i t,.int j u,.ref b].toArray }).get? y = some o:=fun y o e=>Heap.get?_push_of_some _ (q2 _ _ e)
    have gone : ∀ c,(h2.push { cls:=.type "tuple",data:=.seq [Value.int i t,.int j u,.ref b].toArray }).get? c = none→hh.get? c = none:=fun c e=>by
      cases q : hh.get? c with
      | none=>rfl
      | some o=>rw [old _ _ q] at e; cases e
    exact hq h' a dd _ (fun b o e=>k _ _ (old b o e)) (gone _ na) (gone _ nd) ga gd
  refine wpAny_bind (wpAny_holding (mk fun h' a dd tk' k na nd ga gd=>?_))
  have X2 : K.In h':=fun a o e=>k _ _ (X a o e)
  have ty : Looks (model prog w) h' (typeOf (.ref a)) (.ref 135):=(Looks.ld ga).andThen .now
  have L1 : Looks (model prog w) h' (isInstance (.ref a) (.ref 135)) true:=ty.andThen (looks_mroIn X2 H.slf)
  refine wpAny_bind (L1.at ?_)
  rw [if_neg (by decide)]
  refine wpAny_bind (wpAny_holding ?_)
  unfold callSpecial? specialOf
  refine wpAny_bind (wpAny_bind (ty.at ((looks_findIn (M:=model prog w) X2 H.ini).at ?_)))
  refine wpAny_holding ?_
  rw [oi_bind]
  refine wpAny_bind (wpAny_pure ?_)
  refine wpAny_bind (mis_init (s:=⟨h',gg,dr,tk',os⟩) H X2 ga rfl ?_)
  refine wpAny_pure ?_
  exact wpAny_pure (P a dd h' tk' k na nd ga gd)
end
end Mine
namespace Mine
open PySem PySem.W PyProof.Rows PySem.Calls
section
variable {prog : Program} {w : World} {K : Frag} {A : Around} {s : Shared} {E : Value→Shared→Prop} {Q : Value→Shared→Prop}
theorem iss_call (X : K.In s.heap) (hc : peek K ⟨prog,w.params⟩ (checkBuiltinCall "issubclass" ⟨[.ref 135,.type "tuple"],[]⟩) = some ()) (hn : peek K ⟨prog,w.params⟩ (Builtin.«issubclass.nested» ⟨[.ref 135,.type "tuple",rawInt 0],[]⟩) = some (.done (.ret (.bool true))))
    (P : Post s Q (.bool true)) : wpAny (model prog w) A (call (.builtin "issubclass") [.ref 135,.type "tuple"]) Q E s:=by
  refine wpAny_call (codeAny_call_builtin PySem.F.plain_issubclass PySem.F.entry_issubclass ((Looks.of_peek (M:=model prog w) X hc).here ?_))
  refine issubclass_outer ((Looks.of_peek (M:=model prog w) X hn).here ?_)
  exact P s.heap s.toks fun _ _ e=>e
end
end Mine
namespace Mine
open PySem PySem.W PyProof.Rows PySem.Calls
noncomputable section
noncomputable def tp (i : Nat) : Stmt:=topAt i
noncomputable def mth (i j : Nat) : Stmt:=methAt i j
noncomputable def docF (st : Stmt) : Str:=match bodyOf st with | .Expr (.Constant (.str s) _ _) _ :: _=>s | _ => ""
noncomputable def tu (l : List Value) : Obj:=⟨.type "tuple",none,.seq l.toArray 0,#[]⟩
noncomputable def cd (l : List Value) : Obj:=⟨.type "code",none,.fields l.toArray,#[]⟩
noncomputable def dc (P : Params) (l : List (Str × Nat × Value)) (n : Nat) : Data:=.dict (l.map fun e=>⟨PyData.keyHash P e.1,.str e.1 e.2.1,e.2.2⟩).toArray n
noncomputable def dO (d : Data) : Obj:=⟨.type "dict",none,d,#[]⟩
noncomputable def f0 (st : Stmt) (nm q : Str) : Obj:=⟨.none,none,.func ⟨nm,q,argsOf st,.stmts (bodyOf st),scopeOf st,0,[],.none,.none,.none,.none,none,.none,.none,0⟩,#[]⟩
noncomputable def fo (st : Stmt) (nm q : Str) (pm cd dV doc : Value) (cl : List (Str × Addr)) (an : Option Addr) (ct : Value) : Obj:=⟨.type "function",none,.func ⟨nm,q,argsOf st,.stmts (bodyOf st),scopeOf st,3,cl,dV,.none,doc,pm,an,cd,ct,0⟩,#[]⟩
noncomputable def gE : List (Str × Nat × Value):=[("__doc__",166,.none),("__package__",167,.none),("__loader__",168,.builtin "__main__.__loader__#opaque"),("__spec__",169,.none),("__annotations__",170,.ref 6),("__builtins__",171,.ref 4),("__file__",173,.str "/claim/cut.py" 172),("__cached__",174,.none),("_wall",193,.ref 21),("_tuplegetter",252,.ref 60),("Mismatch",380,.ref 135),("_Mismatch",381,.ref 135),("_count_diff_all_purpose",403,.ref 145),("_NODE_OUT",408,.int (-1) 407),("_NODE_DONE",411,.int (-2) 410),("_NodeInfo",448,.ref 164),("CycleError",468,.ref 179),("TopologicalSorter",594,.ref 261),("_law_numbers",602,.ref 270),("_law_steps",613,.ref 277),("_law_row",619,.ref 282),("_law_behind",625,.ref 287),("_law_run",631,.ref 292),("_law_due",637,.ref 297),("_law_right",643,.ref 302),("law",649,.ref 307)]
noncomputable def gO (P : Params) (nm : Str) (t k : Nat) : Obj:=dO (dc P (("__name__",165,.str nm t) :: gE.take k) (k + 1))
noncomputable def cE : List Value:=[.int 1 0,.int 0 0,.ref 20,.int 5 0,.int 0 0,.ref 27,.int 23 0,.int 0 0,.ref 71,.int 67 0,.int 0 0,.ref 144,.int 102 0,.int 0 0,.ref 151,.int 109 0,.int 0 0,.ref 175,.int 121 0,.int 0 0,.ref 188,.int 278 0,.int 0 0,.ref 269,.int 281 0,.int 0 0,.ref 276,.int 290 0,.int 0 0,.ref 281,.int 301 0,.int 0 0,.ref 286,.int 306 0,.int 0 0,.ref 291,.int 322 0,.int 0 0,.ref 296,.int 325 0,.int 0 0,.ref 301,.int 329 0,.int 0 0,.ref 306]
noncomputable def cO (k : Nat) : Obj:=⟨.none,none,.fields (cE.take k).toArray,#[]⟩
noncomputable def ol (P : Params) (g c : Obj) : List Obj:=[
  boot_o_0 P,
  boot_o_1 P,
  boot_o_2 P,
  g,
  boot_o_4 P,
  boot_o_5 P,
  boot_o_6 P,
  boot_o_7 P,
  boot_o_8 P,
  boot_o_9 P,
  boot_o_10 P,
  tu [],
  c,
  cd [.str "<module>" 182,.str "<module>" 183,.str "/claim/cut.py" 184,.int 1 0,.int 0 0,.int 0 0,.int 0 0,.int 0 0,.ref 11,.bool false,.int 181 0,.ref 12,.none,.none,.none,.none,.int 185 0,.int 1 0,.str "/claim/cut.py" 186],
  ⟨.type "frame",none,.plain,#[some (.ref 13),some (.ref 3),some (.ref 3),none,some (.str "__main__" 164),none,some (.ref 0)]⟩,
  tu [],
  ⟨.none,none,(.fields [].toArray),#[]⟩,
  tu [.str "k" 190],
  tu [],
  f0 (tp 0) "_wall" "_wall",
  cd [.str "_wall" 187,.str "_wall" 188,.str "/claim/cut.py" 189,.int 1 0,.int 1 0,.int 0 0,.int 0 0,.int 3 0,.ref 15,.bool true,.int 181 0,.ref 16,.none,.ref 17,.ref 18,.ref 19,.int 191 0,.int 1 0,.str "/claim/cut.py" 192],
  fo (tp 0) "_wall" "_wall" (.str "__main__" 164) (.ref 20) (.none) (.none) [] none .none,
  tu [],
  ⟨.type "builtin_function_or_method",none,(.fields [.builtin "type.__prepare__",.type "type"].toArray),#[]⟩,
  dO (dc P [("__module__",203,.str "cpy313.unittest.util" 194),("__qualname__",205,.str "_tuplegetter" 204),("__firstlineno__",207,.int 5 206),("__init__",216,.ref 35),("__get__",225,.ref 43),("__set__",234,.ref 50),("__delete__",242,.ref 57),("__static_attributes__",245,.ref 58)] 8),
  tu [],
  ⟨.none,none,(.fields [.int 7 0,.int 4 0,.ref 34,.int 11 0,.int 4 0,.ref 42,.int 18 0,.int 4 0,.ref 49,.int 21 0,.int 4 0,.ref 56].toArray),#[]⟩,
  cd [.str "_tuplegetter" 198,.str "_tuplegetter" 199,.str "/claim/cut.py" 200,.int 5 0,.int 0 0,.int 0 0,.int 0 0,.int 0 0,.ref 25,.bool false,.int 181 0,.ref 26,.none,.none,.none,.none,.int 201 0,.int 5 0,.str "/claim/cut.py" 202],
  ⟨.type "frame",none,.plain,#[some (.ref 27),some (.ref 3),some (.ref 24),none,some (.str "cpy313.unittest.util" 194),none,some (.ref 0)]⟩,
  tu [],
  ⟨.none,none,(.fields [].toArray),#[]⟩,
  tu [.str "self" 211,.str "index" 212,.str "doc" 213],
  tu [],
  f0 (mth 2 0) "__init__" "_tuplegetter.__init__",
  cd [.str "__init__" 208,.str "_tuplegetter.__init__" 209,.str "/claim/cut.py" 210,.int 7 0,.int 3 0,.int 0 0,.int 0 0,.int 3 0,.ref 29,.bool true,.int 181 0,.ref 30,.none,.ref 31,.ref 32,.ref 33,.int 214 0,.int 7 0,.str "/claim/cut.py" 215],
  fo (mth 2 0) "__init__" "_tuplegetter.__init__" (.str "cpy313.unittest.util" 194) (.ref 34) (.none) (.none) [] none .none,
  tu [.none],
  tu [],
  ⟨.none,none,(.fields [].toArray),#[]⟩,
  tu [.str "self" 220,.str "obj" 221,.str "objtype" 222],
  tu [],
  f0 (mth 2 1) "__get__" "_tuplegetter.__get__",
  cd [.str "__get__" 217,.str "_tuplegetter.__get__" 218,.str "/claim/cut.py" 219,.int 11 0,.int 3 0,.int 0 0,.int 0 0,.int 3 0,.ref 37,.bool true,.int 181 0,.ref 38,.none,.ref 39,.ref 40,.ref 41,.int 223 0,.int 11 0,.str "/claim/cut.py" 224],
  fo (mth 2 1) "__get__" "_tuplegetter.__get__" (.str "cpy313.unittest.util" 194) (.ref 42) (.ref 36) (.none) [] none .none,
  tu [],
  ⟨.none,none,(.fields [].toArray),#[]⟩,
  tu [.str "self" 229,.str "obj" 230,.str "value" 231],
  tu [],
  f0 (mth 2 2) "__set__" "_tuplegetter.__set__",
  cd [.str "__set__" 226,.str "_tuplegetter.__set__" 227,.str "/claim/cut.py" 228,.int 18 0,.int 3 0,.int 0 0,.int 0 0,.int 3 0,.ref 44,.bool true,.int 181 0,.ref 45,.none,.ref 46,.ref 47,.ref 48,.int 232 0,.int 18 0,.str "/claim/cut.py" 233],
  fo (mth 2 2) "__set__" "_tuplegetter.__set__" (.str "cpy313.unittest.util" 194) (.ref 49) (.none) (.none) [] none .none,
  tu [],
  ⟨.none,none,(.fields [].toArray),#[]⟩,
  tu [.str "self" 238,.str "obj" 239],
  tu [],
  f0 (mth 2 3) "__delete__" "_tuplegetter.__delete__",
  cd [.str "__delete__" 235,.str "_tuplegetter.__delete__" 236,.str "/claim/cut.py" 237,.int 21 0,.int 2 0,.int 0 0,.int 0 0,.int 3 0,.ref 51,.bool true,.int 181 0,.ref 52,.none,.ref 53,.ref 54,.ref 55,.int 240 0,.int 21 0,.str "/claim/cut.py" 241],
  fo (mth 2 3) "__delete__" "_tuplegetter.__delete__" (.str "cpy313.unittest.util" 194) (.ref 56) (.none) (.none) [] none .none,
  tu [.str "__doc__" 243,.str "index" 244],
  dO (dc P [("__module__",203,.str "cpy313.unittest.util" 194),("__firstlineno__",207,.int 5 206),("__init__",216,.ref 35),("__get__",225,.ref 43),("__set__",234,.ref 50),("__delete__",242,.ref 57),("__static_attributes__",245,.ref 58),("__dict__",247,.ref 61),("__weakref__",249,.ref 62),("__doc__",250,.none)] 4),
  ⟨.type "type",none,(.cls ⟨"_tuplegetter",[.type "object"],[.ref 60,.type "object"],59,"_tuplegetter",true,[],[],false,none,false⟩),#[none,none,some (.str "_tuplegetter" 196),some (.str "_tuplegetter" 204),some (.builtin "object.__new__"),some (.bool true)]⟩,
  ⟨.type "getset_descriptor",none,(.fields [.str "__dict__" 246,.ref 60,.builtin "function.__dict__",.builtin "function.__dict__#set"].toArray),#[]⟩,
  ⟨.type "getset_descriptor",none,(.fields [.str "__weakref__" 248,.ref 60,.builtin "ExceptionGroup.__weakref__",.none].toArray),#[]⟩,
  ⟨.type "super",none,(.fields [.ref 60,.ref 60,.ref 60].toArray),#[]⟩,
  ⟨.type "builtin_function_or_method",none,(.fields [.builtin "object.__init_subclass__",.ref 60].toArray),#[]⟩,
  tu [.type "tuple"],
  ⟨.type "builtin_function_or_method",none,(.fields [.builtin "type.__prepare__",.type "type"].toArray),#[]⟩,
  dO (dc P [("__module__",260,.str "cpy313.unittest.util" 194),("__qualname__",262,.str "Mismatch" 261),("__firstlineno__",264,.int 23 263),("__doc__",266,.str "Mismatch(actual, expected, value)" 265),("__slots__",268,.ref 73),("_fields",272,.ref 74),("_field_defaults",273,.ref 75),("__new__",284,.ref 82),("_make",306,.ref 91),("_replace",317,.ref 100),("__replace__",318,.ref 100),("__repr__",326,.ref 107),("_asdict",333,.ref 114),("__getnewargs__",341,.ref 121),("__match_args__",345,.ref 122),("actual",355,.ref 124),("expected",365,.ref 127),("value",375,.ref 130),("__static_attributes__",376,.ref 132),("__classcell__",377,.ref 68)] 20),
  ⟨.type "cell",none,(.cell (some (.ref 135))),#[]⟩,
  tu [],
  ⟨.none,none,(.fields [.int 29 0,.int 4 0,.ref 81,.int 34 0,.int 4 0,.ref 88,.int 41 0,.int 4 0,.ref 99,.int 52 0,.int 4 0,.ref 106,.int 56 0,.int 4 0,.ref 113,.int 59 0,.int 4 0,.ref 120].toArray),#[]⟩,
  cd [.str "Mismatch" 255,.str "Mismatch" 256,.str "/claim/cut.py" 257,.int 23 0,.int 0 0,.int 0 0,.int 0 0,.int 0 0,.ref 69,.bool false,.int 181 0,.ref 70,.none,.none,.none,.none,.int 258 0,.int 23 0,.str "/claim/cut.py" 259],
  ⟨.type "frame",none,.plain,#[some (.ref 71),some (.ref 3),some (.ref 67),none,some (.str "cpy313.unittest.util" 194),none,some (.ref 0)]⟩,
  tu [],
  tu [.str "actual" 269,.str "expected" 270,.str "value" 271],
  dO (dc P [] 0),
  tu [],
  ⟨.none,none,(.fields [].toArray),#[]⟩,
  tu [.str "_cls" 277,.str "actual" 278,.str "expected" 279,.str "value" 280],
  tu [],
  f0 (mth 3 4) "__new__" "Mismatch.__new__",
  cd [.str "__new__" 274,.str "Mismatch.__new__" 275,.str "/claim/cut.py" 276,.int 29 0,.int 4 0,.int 0 0,.int 0 0,.int 3 0,.ref 76,.bool true,.int 181 0,.ref 77,.none,.ref 78,.ref 79,.ref 80,.int 281 0,.int 29 0,.str "/claim/cut.py" 282],
  fo (mth 3 4) "__new__" "Mismatch.__new__" (.str "cpy313.unittest.util" 194) (.ref 81) (.none) (.str (docF (mth 3 4)) 283) [] none .none,
  tu [],
  ⟨.none,none,(.fields [].toArray),#[]⟩,
  tu [.str "cls" 288,.str "iterable" 289,.str "result" 290],
  tu [],
  f0 (mth 3 5) "_make" "Mismatch._make",
  cd [.str "_make" 285,.str "Mismatch._make" 286,.str "/claim/cut.py" 287,.int 33 0,.int 2 0,.int 0 0,.int 0 0,.int 3 0,.ref 83,.bool true,.int 181 0,.ref 84,.none,.ref 85,.ref 86,.ref 87,.int 291 0,.int 33 0,.str "/claim/cut.py" 292],
  fo (mth 3 5) "_make" "Mismatch._make" (.str "cpy313.unittest.util" 194) (.ref 88) (.none) (.str (docF (mth 3 5)) 293) [] (some 92) (.none),
  dO (dc P [("__module__",295,.str "cpy313.unittest.util" 194),("__name__",298,.str "_make" 297),("__qualname__",301,.str "Mismatch._make" 300),("__doc__",303,.str "Make a new Mismatch object from a sequence or iterable" 293),("__annotations__",305,.ref 92)] 5),
  ⟨.type "classmethod",some 90,(.fields [.ref 89,.bool false].toArray),#[]⟩,
  dO (dc P [] 0),
  tu [.ref 68],
  tu [.str "__class__" 310],
  ⟨.none,none,(.fields [].toArray),#[]⟩,
  tu [.str "self" 311,.str "kwds" 312,.str "result" 313],
  tu [],
  f0 (mth 3 6) "_replace" "Mismatch._replace",
  cd [.str "_replace" 307,.str "Mismatch._replace" 308,.str "/claim/cut.py" 309,.int 41 0,.int 1 0,.int 1 0,.int 0 0,.int 11 0,.ref 94,.bool true,.int 181 0,.ref 95,.none,.ref 96,.ref 97,.ref 98,.int 314 0,.int 41 0,.str "/claim/cut.py" 315],
  fo (mth 3 6) "_replace" "Mismatch._replace" (.str "cpy313.unittest.util" 194) (.ref 99) (.none) (.str (docF (mth 3 6)) 316) [("__class__",68)] (none) (.ref 93),
  tu [],
  ⟨.none,none,(.fields [].toArray),#[]⟩,
  tu [.str "self" 322],
  tu [],
  f0 (mth 3 8) "__repr__" "Mismatch.__repr__",
  cd [.str "__repr__" 319,.str "Mismatch.__repr__" 320,.str "/claim/cut.py" 321,.int 52 0,.int 1 0,.int 0 0,.int 0 0,.int 3 0,.ref 101,.bool true,.int 181 0,.ref 102,.none,.ref 103,.ref 104,.ref 105,.int 323 0,.int 52 0,.str "/claim/cut.py" 324],
  fo (mth 3 8) "__repr__" "Mismatch.__repr__" (.str "cpy313.unittest.util" 194) (.ref 106) (.none) (.str (docF (mth 3 8)) 325) [] none .none,
  tu [],
  ⟨.none,none,(.fields [].toArray),#[]⟩,
  tu [.str "self" 330],
  tu [],
  f0 (mth 3 9) "_asdict" "Mismatch._asdict",
  cd [.str "_asdict" 327,.str "Mismatch._asdict" 328,.str "/claim/cut.py" 329,.int 56 0,.int 1 0,.int 0 0,.int 0 0,.int 3 0,.ref 108,.bool true,.int 181 0,.ref 109,.none,.ref 110,.ref 111,.ref 112,.int 331 0,.int 56 0,.str "/claim/cut.py" 332],
  fo (mth 3 9) "_asdict" "Mismatch._asdict" (.str "cpy313.unittest.util" 194) (.ref 113) (.none) (.none) [] none .none,
  tu [],
  ⟨.none,none,(.fields [].toArray),#[]⟩,
  tu [.str "self" 337],
  tu [],
  f0 (mth 3 10) "__getnewargs__" "Mismatch.__getnewargs__",
  cd [.str "__getnewargs__" 334,.str "Mismatch.__getnewargs__" 335,.str "/claim/cut.py" 336,.int 59 0,.int 1 0,.int 0 0,.int 0 0,.int 3 0,.ref 115,.bool true,.int 181 0,.ref 116,.none,.ref 117,.ref 118,.ref 119,.int 338 0,.int 59 0,.str "/claim/cut.py" 339],
  fo (mth 3 10) "__getnewargs__" "Mismatch.__getnewargs__" (.str "cpy313.unittest.util" 194) (.ref 120) (.none) (.str (docF (mth 3 10)) 340) [] none .none,
  tu [.str "actual" 342,.str "expected" 343,.str "value" 344],
  dO (dc P [("index",352,.int 0 346),("__doc__",354,.str "Alias for field number 0" 347)] 2),
  ⟨.ref 60,some 123,.plain,#[]⟩,
  ⟨.type "frame",none,(dc P [("self",348,.ref 124),("index",349,.int 0 346),("doc",350,.str "Alias for field number 0" 347)] 3),#[]⟩,
  dO (dc P [("index",362,.int 1 356),("__doc__",364,.str "Alias for field number 1" 357)] 2),
  ⟨.ref 60,some 126,.plain,#[]⟩,
  ⟨.type "frame",none,(dc P [("self",358,.ref 127),("index",359,.int 1 356),("doc",360,.str "Alias for field number 1" 357)] 3),#[]⟩,
  dO (dc P [("index",372,.int 2 366),("__doc__",374,.str "Alias for field number 2" 367)] 2),
  ⟨.ref 60,some 129,.plain,#[]⟩,
  ⟨.type "frame",none,(dc P [("self",368,.ref 130),("index",369,.int 2 366),("doc",370,.str "Alias for field number 2" 367)] 3),#[]⟩,
  tu [],
  ⟨.type "list",none,(.seq [].toArray 0),#[]⟩,
  dO (dc P [("__module__",260,.str "cpy313.unittest.util" 194),("__firstlineno__",264,.int 23 263),("__doc__",266,.str "Mismatch(actual, expected, value)" 265),("__slots__",268,.ref 73),("_fields",272,.ref 74),("_field_defaults",273,.ref 75),("__new__",284,.ref 136),("_make",306,.ref 91),("_replace",317,.ref 100),("__replace__",318,.ref 100),("__repr__",326,.ref 107),("_asdict",333,.ref 114),("__getnewargs__",341,.ref 121),("__match_args__",345,.ref 122),("actual",355,.ref 124),("expected",365,.ref 127),("value",375,.ref 130),("__static_attributes__",376,.ref 132)] 2),
  ⟨.type "type",none,(.cls ⟨"Mismatch",[.type "tuple"],[.ref 135,.type "tuple",.type "object"],134,"Mismatch",false,[],[],false,none,false⟩),#[some (.ref 65),none,some (.str "Mismatch" 253),some (.str "Mismatch" 261),some (.none),some (.bool false)]⟩,
  ⟨.type "staticmethod",none,(.fields [.ref 82].toArray),#[]⟩,
  ⟨.type "super",none,(.fields [.ref 135,.ref 135,.ref 135].toArray),#[]⟩,
  ⟨.type "builtin_function_or_method",none,(.fields [.builtin "object.__init_subclass__",.ref 135].toArray),#[]⟩,
  tu [],
  ⟨.none,none,(.fields [].toArray),#[]⟩,
  tu [.str "actual" 385,.str "expected" 386,.str "s" 387,.str "t" 388,.str "m" 389,.str "n" 390,.str "NULL" 391,.str "result" 392,.str "i" 393,.str "elem" 394,.str "cnt_s" 395,.str "cnt_t" 396,.str "j" 397,.str "other_elem" 398,.str "diff" 399],
  tu [],
  f0 (tp 5) "_count_diff_all_purpose" "_count_diff_all_purpose",
  cd [.str "_count_diff_all_purpose" 382,.str "_count_diff_all_purpose" 383,.str "/claim/cut.py" 384,.int 67 0,.int 2 0,.int 0 0,.int 0 0,.int 3 0,.ref 139,.bool true,.int 181 0,.ref 140,.none,.ref 141,.ref 142,.ref 143,.int 400 0,.int 67 0,.str "/claim/cut.py" 401],
  fo (tp 5) "_count_diff_all_purpose" "_count_diff_all_purpose" (.str "cpy313.unittest.util" 194) (.ref 144) (.none) (.str (docF (tp 5)) 402) [] none .none,
  tu [],
  ⟨.type "builtin_function_or_method",none,(.fields [.builtin "type.__prepare__",.type "type"].toArray),#[]⟩,
  dO (dc P [("__module__",419,.str "cpy313.graphlib" 404),("__qualname__",421,.str "_NodeInfo" 420),("__firstlineno__",423,.int 102 422),("__slots__",427,.ref 153),("__init__",435,.ref 160),("__static_attributes__",439,.ref 161)] 6),
  tu [],
  ⟨.none,none,(.fields [.int 105 0,.int 4 0,.ref 159].toArray),#[]⟩,
  cd [.str "_NodeInfo" 414,.str "_NodeInfo" 415,.str "/claim/cut.py" 416,.int 102 0,.int 0 0,.int 0 0,.int 0 0,.int 0 0,.ref 149,.bool false,.int 181 0,.ref 150,.none,.none,.none,.none,.int 417 0,.int 102 0,.str "/claim/cut.py" 418],
  ⟨.type "frame",none,.plain,#[some (.ref 151),some (.ref 3),some (.ref 148),none,some (.str "cpy313.graphlib" 404),none,some (.ref 0)]⟩,
  tu [.str "node" 424,.str "npredecessors" 425,.str "successors" 426],
  tu [],
  ⟨.none,none,(.fields [].toArray),#[]⟩,
  tu [.str "self" 431,.str "node" 432],
  tu [],
  f0 (mth 9 1) "__init__" "_NodeInfo.__init__",
  cd [.str "__init__" 428,.str "_NodeInfo.__init__" 429,.str "/claim/cut.py" 430,.int 105 0,.int 2 0,.int 0 0,.int 0 0,.int 3 0,.ref 154,.bool true,.int 181 0,.ref 155,.none,.ref 156,.ref 157,.ref 158,.int 433 0,.int 105 0,.str "/claim/cut.py" 434],
  fo (mth 9 1) "__init__" "_NodeInfo.__init__" (.str "cpy313.graphlib" 404) (.ref 159) (.none) (.none) [] none .none,
  tu [.str "node" 436,.str "npredecessors" 437,.str "successors" 438],
  ⟨.type "list",none,(.seq [.str "node" 424,.str "npredecessors" 425,.str "successors" 426].toArray 1),#[]⟩,
  dO (dc P [("__module__",419,.str "cpy313.graphlib" 404),("__firstlineno__",423,.int 102 422),("__slots__",427,.ref 153),("__init__",435,.ref 160),("__static_attributes__",439,.ref 161),("node",441,.ref 165),("npredecessors",443,.ref 166),("successors",445,.ref 167),("__doc__",446,.none)] 5),
  ⟨.type "type",none,(.cls ⟨"_NodeInfo",[.type "object"],[.ref 164,.type "object"],163,"_NodeInfo",false,["node","npredecessors","successors"],[],false,none,false⟩),#[none,none,some (.str "_NodeInfo" 412),some (.str "_NodeInfo" 420),some (.builtin "object.__new__"),some (.bool false)]⟩,
  ⟨.type "member_descriptor",none,(.fields [.str "node" 440,.ref 164,.builtin "proto.slot",.builtin "proto.slot#set",.int 2 0].toArray),#[]⟩,
  ⟨.type "member_descriptor",none,(.fields [.str "npredecessors" 442,.ref 164,.builtin "proto.slot",.builtin "proto.slot#set",.int 1 0].toArray),#[]⟩,
  ⟨.type "member_descriptor",none,(.fields [.str "successors" 444,.ref 164,.builtin "proto.slot",.builtin "proto.slot#set",.int 0 0].toArray),#[]⟩,
  ⟨.type "super",none,(.fields [.ref 164,.ref 164,.ref 164].toArray),#[]⟩,
  ⟨.type "builtin_function_or_method",none,(.fields [.builtin "object.__init_subclass__",.ref 164].toArray),#[]⟩,
  tu [.type "ValueError"],
  ⟨.type "builtin_function_or_method",none,(.fields [.builtin "type.__prepare__",.type "type"].toArray),#[]⟩,
  dO (dc P [("__module__",456,.str "cpy313.graphlib" 404),("__qualname__",458,.str "CycleError" 457),("__firstlineno__",460,.int 109 459),("__doc__",462,.str (docF (tp 10)) 461),("__static_attributes__",464,.ref 177)] 5),
  tu [],
  ⟨.none,none,(.fields [].toArray),#[]⟩,
  cd [.str "CycleError" 451,.str "CycleError" 452,.str "/claim/cut.py" 453,.int 109 0,.int 0 0,.int 0 0,.int 0 0,.int 0 0,.ref 173,.bool false,.int 181 0,.ref 174,.none,.none,.none,.none,.int 454 0,.int 109 0,.str "/claim/cut.py" 455],
  ⟨.type "frame",none,.plain,#[some (.ref 175),some (.ref 3),some (.ref 172),none,some (.str "cpy313.graphlib" 404),none,some (.ref 0)]⟩,
  tu [],
  dO (dc P [("__module__",456,.str "cpy313.graphlib" 404),("__firstlineno__",460,.int 109 459),("__doc__",462,.str (docF (tp 10)) 461),("__static_attributes__",464,.ref 177),("__weakref__",466,.ref 180)] 2),
  ⟨.type "type",none,(.cls ⟨"CycleError",[.type "ValueError"],[.ref 179,.type "ValueError",.type "Exception",.type "BaseException",.type "object"],178,"CycleError",true,[],[],false,none,false⟩),#[some (.ref 170),none,some (.str "CycleError" 449),some (.str "CycleError" 457),some (.builtin "ValueError.__new__"),some (.bool true)]⟩,
  ⟨.type "getset_descriptor",none,(.fields [.str "__weakref__" 465,.ref 179,.builtin "ExceptionGroup.__weakref__",.none].toArray),#[]⟩,
  ⟨.type "super",none,(.fields [.ref 179,.ref 179,.ref 179].toArray),#[]⟩,
  ⟨.type "builtin_function_or_method",none,(.fields [.builtin "object.__init_subclass__",.ref 179].toArray),#[]⟩,
  tu [],
  ⟨.type "builtin_function_or_method",none,(.fields [.builtin "type.__prepare__",.type "type"].toArray),#[]⟩,
  dO (dc P [("__module__",476,.str "cpy313.graphlib" 404),("__qualname__",478,.str "TopologicalSorter" 477),("__firstlineno__",480,.int 121 479),("__doc__",482,.str (docF (tp 11)) 481),("__init__",493,.ref 197),("_get_nodeinfo",502,.ref 204),("add",515,.ref 211),("prepare",522,.ref 216),("get_ready",533,.ref 223),("is_active",541,.ref 230),("__bool__",548,.ref 237),("done",563,.ref 244),("_find_cycle",576,.ref 251),("static_order",583,.ref 258),("__static_attributes__",588,.ref 259)] 15),
  tu [],
  ⟨.none,none,(.fields [.int 124 0,.int 4 0,.ref 196,.int 133 0,.int 4 0,.ref 203,.int 138 0,.int 4 0,.ref 210,.int 161 0,.int 4 0,.ref 215,.int 176 0,.int 4 0,.ref 222,.int 196 0,.int 4 0,.ref 229,.int 210 0,.int 4 0,.ref 236,.int 213 0,.int 4 0,.ref 243,.int 246 0,.int 4 0,.ref 250,.int 275 0,.int 4 0,.ref 257].toArray),#[]⟩,
  cd [.str "TopologicalSorter" 471,.str "TopologicalSorter" 472,.str "/claim/cut.py" 473,.int 121 0,.int 0 0,.int 0 0,.int 0 0,.int 0 0,.ref 186,.bool false,.int 181 0,.ref 187,.none,.none,.none,.none,.int 474 0,.int 121 0,.str "/claim/cut.py" 475],
  ⟨.type "frame",none,.plain,#[some (.ref 188),some (.ref 3),some (.ref 185),none,some (.str "cpy313.graphlib" 404),none,some (.ref 0)]⟩,
  tu [.none],
  tu [],
  ⟨.none,none,(.fields [].toArray),#[]⟩,
  tu [.str "self" 487,.str "graph" 488,.str "node" 489,.str "predecessors" 490],
  tu [],
  f0 (mth 11 1) "__init__" "TopologicalSorter.__init__",
  cd [.str "__init__" 484,.str "TopologicalSorter.__init__" 485,.str "/claim/cut.py" 486,.int 124 0,.int 2 0,.int 0 0,.int 0 0,.int 3 0,.ref 191,.bool true,.int 181 0,.ref 192,.none,.ref 193,.ref 194,.ref 195,.int 491 0,.int 124 0,.str "/claim/cut.py" 492],
  fo (mth 11 1) "__init__" "TopologicalSorter.__init__" (.str "cpy313.graphlib" 404) (.ref 196) (.ref 190) (.none) [] none .none,
  tu [],
  ⟨.none,none,(.fields [].toArray),#[]⟩,
  tu [.str "self" 497,.str "node" 498,.str "result" 499],
  tu [],
  f0 (mth 11 2) "_get_nodeinfo" "TopologicalSorter._get_nodeinfo",
  cd [.str "_get_nodeinfo" 494,.str "TopologicalSorter._get_nodeinfo" 495,.str "/claim/cut.py" 496,.int 133 0,.int 2 0,.int 0 0,.int 0 0,.int 3 0,.ref 198,.bool true,.int 181 0,.ref 199,.none,.ref 200,.ref 201,.ref 202,.int 500 0,.int 133 0,.str "/claim/cut.py" 501],
  fo (mth 11 2) "_get_nodeinfo" "TopologicalSorter._get_nodeinfo" (.str "cpy313.graphlib" 404) (.ref 203) (.none) (.none) [] none .none,
  tu [],
  ⟨.none,none,(.fields [].toArray),#[]⟩,
  tu [.str "self" 506,.str "node" 507,.str "predecessors" 508,.str "nodeinfo" 509,.str "pred" 510,.str "pred_info" 511],
  tu [],
  f0 (mth 11 3) "add" "TopologicalSorter.add",
  cd [.str "add" 503,.str "TopologicalSorter.add" 504,.str "/claim/cut.py" 505,.int 138 0,.int 2 0,.int 0 0,.int 0 0,.int 7 0,.ref 205,.bool true,.int 181 0,.ref 206,.none,.ref 207,.ref 208,.ref 209,.int 512 0,.int 138 0,.str "/claim/cut.py" 513],
  fo (mth 11 3) "add" "TopologicalSorter.add" (.str "cpy313.graphlib" 404) (.ref 210) (.none) (.str (docF (mth 11 3)) 514) [] none .none,
  tu [],
  ⟨.none,none,(.fields [].toArray),#[]⟩,
  f0 (mth 11 4) "prepare" "TopologicalSorter.prepare",
  cd [.str "prepare" 516,.str "TopologicalSorter.prepare" 517,.str "/claim/cut.py" 518,.int 161 0,.int 1 0,.int 0 0,.int 0 0,.int 3 0,.ref 212,.bool true,.int 181 0,.ref 213,.none,.none,.none,.ref 214,.int 519 0,.int 161 0,.str "/claim/cut.py" 520],
  fo (mth 11 4) "prepare" "TopologicalSorter.prepare" (.str "cpy313.graphlib" 404) (.ref 215) (.none) (.str (docF (mth 11 4)) 521) [] none .none,
  tu [],
  ⟨.none,none,(.fields [].toArray),#[]⟩,
  tu [.str "self" 526,.str "result" 527,.str "n2i" 528,.str "node" 529],
  tu [],
  f0 (mth 11 5) "get_ready" "TopologicalSorter.get_ready",
  cd [.str "get_ready" 523,.str "TopologicalSorter.get_ready" 524,.str "/claim/cut.py" 525,.int 176 0,.int 1 0,.int 0 0,.int 0 0,.int 3 0,.ref 217,.bool true,.int 181 0,.ref 218,.none,.ref 219,.ref 220,.ref 221,.int 530 0,.int 176 0,.str "/claim/cut.py" 531],
  fo (mth 11 5) "get_ready" "TopologicalSorter.get_ready" (.str "cpy313.graphlib" 404) (.ref 222) (.none) (.str (docF (mth 11 5)) 532) [] none .none,
  tu [],
  ⟨.none,none,(.fields [].toArray),#[]⟩,
  tu [.str "self" 537],
  tu [],
  f0 (mth 11 6) "is_active" "TopologicalSorter.is_active",
  cd [.str "is_active" 534,.str "TopologicalSorter.is_active" 535,.str "/claim/cut.py" 536,.int 196 0,.int 1 0,.int 0 0,.int 0 0,.int 3 0,.ref 224,.bool true,.int 181 0,.ref 225,.none,.ref 226,.ref 227,.ref 228,.int 538 0,.int 196 0,.str "/claim/cut.py" 539],
  fo (mth 11 6) "is_active" "TopologicalSorter.is_active" (.str "cpy313.graphlib" 404) (.ref 229) (.none) (.str (docF (mth 11 6)) 540) [] none .none,
  tu [],
  ⟨.none,none,(.fields [].toArray),#[]⟩,
  tu [.str "self" 545],
  tu [],
  f0 (mth 11 7) "__bool__" "TopologicalSorter.__bool__",
  cd [.str "__bool__" 542,.str "TopologicalSorter.__bool__" 543,.str "/claim/cut.py" 544,.int 210 0,.int 1 0,.int 0 0,.int 0 0,.int 3 0,.ref 231,.bool true,.int 181 0,.ref 232,.none,.ref 233,.ref 234,.ref 235,.int 546 0,.int 210 0,.str "/claim/cut.py" 547],
  fo (mth 11 7) "__bool__" "TopologicalSorter.__bool__" (.str "cpy313.graphlib" 404) (.ref 236) (.none) (.none) [] none .none,
  tu [],
  ⟨.none,none,(.fields [].toArray),#[]⟩,
  tu [.str "self" 552,.str "nodes" 553,.str "n2i" 554,.str "node" 555,.str "nodeinfo" 556,.str "stat" 557,.str "successor" 558,.str "successor_info" 559],
  tu [],
  f0 (mth 11 8) "done" "TopologicalSorter.done",
  cd [.str "done" 549,.str "TopologicalSorter.done" 550,.str "/claim/cut.py" 551,.int 213 0,.int 1 0,.int 0 0,.int 0 0,.int 7 0,.ref 238,.bool true,.int 181 0,.ref 239,.none,.ref 240,.ref 241,.ref 242,.int 560 0,.int 213 0,.str "/claim/cut.py" 561],
  fo (mth 11 8) "done" "TopologicalSorter.done" (.str "cpy313.graphlib" 404) (.ref 243) (.none) (.str (docF (mth 11 8)) 562) [] none .none,
  tu [],
  ⟨.none,none,(.fields [].toArray),#[]⟩,
  tu [.str "self" 567,.str "n2i" 568,.str "stack" 569,.str "itstack" 570,.str "seen" 571,.str "node2stacki" 572,.str "node" 573],
  tu [],
  f0 (mth 11 9) "_find_cycle" "TopologicalSorter._find_cycle",
  cd [.str "_find_cycle" 564,.str "TopologicalSorter._find_cycle" 565,.str "/claim/cut.py" 566,.int 246 0,.int 1 0,.int 0 0,.int 0 0,.int 3 0,.ref 245,.bool true,.int 181 0,.ref 246,.none,.ref 247,.ref 248,.ref 249,.int 574 0,.int 246 0,.str "/claim/cut.py" 575],
  fo (mth 11 9) "_find_cycle" "TopologicalSorter._find_cycle" (.str "cpy313.graphlib" 404) (.ref 250) (.none) (.none) [] none .none,
  tu [],
  ⟨.none,none,(.fields [].toArray),#[]⟩,
  tu [.str "self" 580],
  tu [],
  f0 (mth 11 10) "static_order" "TopologicalSorter.static_order",
  cd [.str "static_order" 577,.str "TopologicalSorter.static_order" 578,.str "/claim/cut.py" 579,.int 275 0,.int 1 0,.int 0 0,.int 0 0,.int 3 0,.ref 252,.bool true,.int 181 0,.ref 253,.none,.ref 254,.ref 255,.ref 256,.int 581 0,.int 275 0,.str "/claim/cut.py" 582],
  fo (mth 11 10) "static_order" "TopologicalSorter.static_order" (.str "cpy313.graphlib" 404) (.ref 257) (.none) (.none) [] none .none,
  tu [.str "_nfinished" 584,.str "_node2info" 585,.str "_npassedout" 586,.str "_ready_nodes" 587],
  dO (dc P [("__module__",476,.str "cpy313.graphlib" 404),("__firstlineno__",480,.int 121 479),("__doc__",482,.str (docF (tp 11)) 481),("__init__",493,.ref 197),("_get_nodeinfo",502,.ref 204),("add",515,.ref 211),("prepare",522,.ref 216),("get_ready",533,.ref 223),("is_active",541,.ref 230),("__bool__",548,.ref 237),("done",563,.ref 244),("_find_cycle",576,.ref 251),("static_order",583,.ref 258),("__static_attributes__",588,.ref 259),("__dict__",590,.ref 262),("__weakref__",592,.ref 263)] 3),
  ⟨.type "type",none,(.cls ⟨"TopologicalSorter",[.type "object"],[.ref 261,.type "object"],260,"TopologicalSorter",true,[],[],false,none,false⟩),#[none,none,some (.str "TopologicalSorter" 469),some (.str "TopologicalSorter" 477),some (.builtin "object.__new__"),some (.bool true)]⟩,
  ⟨.type "getset_descriptor",none,(.fields [.str "__dict__" 589,.ref 261,.builtin "function.__dict__",.builtin "function.__dict__#set"].toArray),#[]⟩,
  ⟨.type "getset_descriptor",none,(.fields [.str "__weakref__" 591,.ref 261,.builtin "ExceptionGroup.__weakref__",.none].toArray),#[]⟩,
  ⟨.type "super",none,(.fields [.ref 261,.ref 261,.ref 261].toArray),#[]⟩,
  ⟨.type "builtin_function_or_method",none,(.fields [.builtin "object.__init_subclass__",.ref 261].toArray),#[]⟩,
  tu [],
  ⟨.none,none,(.fields [].toArray),#[]⟩,
  f0 (tp 13) "_law_numbers" "_law_numbers",
  cd [.str "_law_numbers" 597,.str "_law_numbers" 598,.str "/claim/cut.py" 599,.int 278 0,.int 1 0,.int 0 0,.int 0 0,.int 3 0,.ref 266,.bool true,.int 181 0,.ref 267,.none,.none,.none,.ref 268,.int 600 0,.int 278 0,.str "/claim/cut.py" 601],
  fo (tp 13) "_law_numbers" "_law_numbers" (.str "law_ox0192_01" 595) (.ref 269) (.none) (.none) [] none .none,
  tu [],
  ⟨.none,none,(.fields [].toArray),#[]⟩,
  tu [.str "numbers" 606,.str "steps" 607,.str "x" 608,.str "one" 609,.str "two" 610],
  tu [],
  f0 (tp 14) "_law_steps" "_law_steps",
  cd [.str "_law_steps" 603,.str "_law_steps" 604,.str "/claim/cut.py" 605,.int 281 0,.int 1 0,.int 0 0,.int 0 0,.int 3 0,.ref 271,.bool true,.int 181 0,.ref 272,.none,.ref 273,.ref 274,.ref 275,.int 611 0,.int 281 0,.str "/claim/cut.py" 612],
  fo (tp 14) "_law_steps" "_law_steps" (.str "law_ox0192_01" 595) (.ref 276) (.none) (.none) [] none .none,
  tu [],
  ⟨.none,none,(.fields [].toArray),#[]⟩,
  f0 (tp 15) "_law_row" "_law_row",
  cd [.str "_law_row" 614,.str "_law_row" 615,.str "/claim/cut.py" 616,.int 290 0,.int 1 0,.int 0 0,.int 0 0,.int 3 0,.ref 278,.bool true,.int 181 0,.ref 279,.none,.none,.none,.ref 280,.int 617 0,.int 290 0,.str "/claim/cut.py" 618],
  fo (tp 15) "_law_row" "_law_row" (.str "law_ox0192_01" 595) (.ref 281) (.none) (.none) [] none .none,
  tu [],
  ⟨.none,none,(.fields [].toArray),#[]⟩,
  f0 (tp 16) "_law_behind" "_law_behind",
  cd [.str "_law_behind" 620,.str "_law_behind" 621,.str "/claim/cut.py" 622,.int 301 0,.int 2 0,.int 0 0,.int 0 0,.int 3 0,.ref 283,.bool true,.int 181 0,.ref 284,.none,.none,.none,.ref 285,.int 623 0,.int 301 0,.str "/claim/cut.py" 624],
  fo (tp 16) "_law_behind" "_law_behind" (.str "law_ox0192_01" 595) (.ref 286) (.none) (.none) [] none .none,
  tu [],
  ⟨.none,none,(.fields [].toArray),#[]⟩,
  f0 (tp 17) "_law_run" "_law_run",
  cd [.str "_law_run" 626,.str "_law_run" 627,.str "/claim/cut.py" 628,.int 306 0,.int 2 0,.int 0 0,.int 0 0,.int 3 0,.ref 288,.bool true,.int 181 0,.ref 289,.none,.none,.none,.ref 290,.int 629 0,.int 306 0,.str "/claim/cut.py" 630],
  fo (tp 17) "_law_run" "_law_run" (.str "law_ox0192_01" 595) (.ref 291) (.none) (.none) [] none .none,
  tu [],
  ⟨.none,none,(.fields [].toArray),#[]⟩,
  f0 (tp 18) "_law_due" "_law_due",
  cd [.str "_law_due" 632,.str "_law_due" 633,.str "/claim/cut.py" 634,.int 322 0,.int 2 0,.int 0 0,.int 0 0,.int 3 0,.ref 293,.bool true,.int 181 0,.ref 294,.none,.none,.none,.ref 295,.int 635 0,.int 322 0,.str "/claim/cut.py" 636],
  fo (tp 18) "_law_due" "_law_due" (.str "law_ox0192_01" 595) (.ref 296) (.none) (.none) [] none .none,
  tu [],
  ⟨.none,none,(.fields [].toArray),#[]⟩,
  f0 (tp 19) "_law_right" "_law_right",
  cd [.str "_law_right" 638,.str "_law_right" 639,.str "/claim/cut.py" 640,.int 325 0,.int 2 0,.int 0 0,.int 0 0,.int 3 0,.ref 298,.bool true,.int 181 0,.ref 299,.none,.none,.none,.ref 300,.int 641 0,.int 325 0,.str "/claim/cut.py" 642],
  fo (tp 19) "_law_right" "_law_right" (.str "law_ox0192_01" 595) (.ref 301) (.none) (.none) [] none .none,
  tu [],
  ⟨.none,none,(.fields [].toArray),#[]⟩,
  f0 (tp 20) "law" "law",
  cd [.str "law" 644,.str "law" 645,.str "/claim/cut.py" 646,.int 329 0,.int 1 0,.int 0 0,.int 0 0,.int 3 0,.ref 303,.bool true,.int 181 0,.ref 304,.none,.none,.none,.ref 305,.int 647 0,.int 329 0,.str "/claim/cut.py" 648],
  fo (tp 20) "law" "law" (.str "law_ox0192_01" 595) (.ref 306) (.none) (.none) [] none .none]
end
end Mine
namespace Mine
open PySem PySem.W PyProof.Rows PySem.Calls
noncomputable section
noncomputable def od : List Obj→Bool→List Obj
  | [],_=>[]
  | o :: l,true=>o :: od l false
  | _ :: l,false=>od l true
noncomputable def trF : Nat→List Obj→BT
  | 0,_=>.nil
  | _ + 1,[]=>.nil
  | n + 1,o :: l=>.node o (trF n (od l true)) (trF n (od l false))
abbrev pwP : Program:=PySem.Challenge.pw_ox0192_01
noncomputable def envE : Env:={ scope:=pwP.main.scope,locals:=mainNs,globals:=mainNs,cells:=[],code:=.ref 13,frame:=some 14 }
noncomputable def bE : List Stmt:=behindTheImports pwP
noncomputable def stT (w : World) (os : OsState) (n : Nat) (g c : Obj) (toks : Nat) : SharedT:=⟨trF 10 ((ol w.params g c).take n),n,{},#[],{},toks,os⟩
abbrev cdE : Code:=.body bE envE
theorem pc0 (w : World) (os : OsState) : segRunT treeTable pwP w 11 (some (.ref 6)) 1 362 (stT w os 15 (boot_o_3 w.params) (cO 0) 187) (piecesOf [tp 0,tp 1,tp 2] envE cdE default [topFrame default]) =
    some (.next,stT w os 65 (gO w.params "cpy313.unittest.util" 194 10) (cO 6) 253,cdE,⟨5,0,22,54⟩):=by
  rw [Fast.te10110043849684766642,Fast.te14364793385576792824]; kernel_rfl
theorem pc1 (w : World) (os : OsState) : segRunT treeTable pwP w 11 (some (.ref 6)) 1 1047 (stT w os 65 (gO w.params "cpy313.unittest.util" 194 10) (cO 6) 253) (piecesOf [tp 3] envE cdE ⟨5,0,22,54⟩ [topFrame default]) =
    some (.next,stT w os 139 (gO w.params "cpy313.unittest.util" 194 11) (cO 9) 381,cdE,⟨23,0,65,55⟩):=by
  rw [Fast.te10110043849684766642,Fast.te14364793385576792824]; kernel_rfl
theorem pc2 (w : World) (os : OsState) : segRunT treeTable pwP w 11 (some (.ref 6)) 1 545 (stT w os 139 (gO w.params "cpy313.unittest.util" 194 11) (cO 9) 381) (piecesOf [tp 4,tp 5,tp 6,tp 7,tp 8,tp 9,tp 10] envE cdE ⟨23,0,65,55⟩ [topFrame default]) =
    some (.next,stT w os 183 (gO w.params "cpy313.graphlib" 404 17) (cO 18) 469,cdE,⟨109,0,120,8⟩):=by
  rw [Fast.te10110043849684766642,Fast.te14364793385576792824]; kernel_rfl
theorem pc3 (w : World) (os : OsState) : segRunT treeTable pwP w 11 (some (.ref 6)) 1 537 (stT w os 183 (gO w.params "cpy313.graphlib" 404 17) (cO 18) 469) (piecesOf [tp 11] envE cdE ⟨109,0,120,8⟩ [topFrame default]) =
    some (.next,stT w os 266 (gO w.params "cpy313.graphlib" 404 18) (cO 21) 595,cdE,⟨121,0,276,16⟩):=by
  rw [Fast.te10110043849684766642,Fast.te14364793385576792824]; kernel_rfl
theorem pc4 (w : World) (os : OsState) : segRunT treeTable pwP w 11 (some (.ref 6)) 1 225 (stT w os 266 (gO w.params "cpy313.graphlib" 404 18) (cO 21) 595) (piecesOf [tp 12,tp 13,tp 14,tp 15,tp 16,tp 17,tp 18,tp 19,tp 20] envE cdE ⟨121,0,276,16⟩ [topFrame default]) =
    some (.next,stT w os 308 (gO w.params "law_ox0192_01" 595 26) (cO 45) 650,cdE,⟨329,0,344,15⟩):=by
  rw [Fast.te10110043849684766642,Fast.te14364793385576792824]; kernel_rfl
theorem pre0 (w : World) (os : OsState) : topGo treeTable pwP w 11 (some (.ref 6)) 12 ⟨boot_heap w.params,#[],boot_drawn,boot_toks,os⟩ (topStub pwP) =
    some (⟨⟨((ol w.params (boot_o_3 w.params) (cO 0)).take 15).toArray,{}⟩,#[],{},187,os⟩,⟨denote treeTable cdE,cdE,default,[topFrame default]⟩):=by
  rw [Fast.te15667345088766844465,Fast.te11892475500146522536,Fast.te14364793385576792824]; kernel_rfl
theorem blk0 (w : World) (os : OsState) : segRun treeTable pwP w 11 (some (.ref 6)) 1 1 ⟨⟨((ol w.params (boot_o_3 w.params) (cO 0)).take 15).toArray,{}⟩,#[],{},187,os⟩ (blockOf bE envE cdE default [topFrame default]) =
    some (.next,(stT w os 15 (boot_o_3 w.params) (cO 0) 187).abs,cdE,default):=by kernel_rfl
theorem fin0 (w : World) (os : OsState) : topRun treeTable pwP w 11 (some (.ref 6)) 2 (stT w os 308 (gO w.params "law_ox0192_01" 595 26) (cO 45) 650).abs ⟨doneF .next,cdE,⟨329,0,344,15⟩,[topFrame default]⟩ =
    some (stT w os 308 (gO w.params "law_ox0192_01" 595 26) (cO 45) 650).abs:=by kernel_rfl
theorem bE_eq : bE = [tp 0,tp 1,tp 2] ++ ([tp 3] ++ ([tp 4,tp 5,tp 6,tp 7,tp 8,tp 9,tp 10] ++ ([tp 11] ++ ([tp 12,tp 13,tp 14,tp 15,tp 16,tp 17,tp 18,tp 19,tp 20] ++ [])))):=by kernel_rfl
noncomputable def lstF (P : Params) : List Obj:=ol P (gO P "law_ox0192_01" 595 26) (cO 45)
noncomputable def H1 (P : Params) : Heap:=absHeap (trF 10 ((lstF P).take 308)) 308 {}
theorem H1_eq (P : Params) : H1 P = ⟨(lstF P).toArray,{}⟩:=by kernel_rfl
theorem runL (w : World) (os : OsState) : topRun treeTable pwP w 11 (some (.ref 6)) (12 + (1 + (362 + (1047 + (545 + (537 + (225 + 2))))))) ⟨boot_heap w.params,#[],boot_drawn,boot_toks,os⟩ (topStub pwP) =
    some ⟨H1 w.params,#[],{},650,os⟩:=by
  refine go_top (pre0 w os) (piece_block (blk0 w os) ?_)
  rw [show restOf bE envE cdE default [topFrame default] = restOf ([tp 0,tp 1,tp 2] ++ ([tp 3] ++ ([tp 4,tp 5,tp 6,tp 7,tp 8,tp 9,tp 10] ++ ([tp 11] ++ ([tp 12,tp 13,tp 14,tp 15,tp 16,tp 17,tp 18,tp 19,tp 20] ++ []))))) envE cdE default [topFrame default] from congrArg (fun b=>restOf b envE cdE default [topFrame default]) bE_eq]
  exact piece_app (segRun_of (pc0 w os)) (piece_app (segRun_of (pc1 w os)) (piece_app (segRun_of (pc2 w os)) (piece_app (segRun_of (pc3 w os)) (piece_app (segRun_of (pc4 w os)) (piece_nil (fin0 w os))))))
end
end Mine
namespace Mine
open PySem PySem.W PyProof.Rows PySem.Calls
noncomputable section
noncomputable def qL : Program:={ pwP with main:={ pwP.main with body:=[tp 20] } }
noncomputable def looseL : List Str:=["_wall","_tuplegetter","Mismatch","_Mismatch","_count_diff_all_purpose","_NODE_OUT","_NODE_DONE","_NodeInfo","CycleError","TopologicalSorter","_law_numbers","_law_steps","_law_row","_law_behind","_law_run","_law_due","_law_right"]
theorem open0 : ∀ w : World,(fencedOpening treeTable pwP w 5548).map (fun s=>(s.heap,s.gens,s.drawn,s.toks)) = some (boot_heap w.params,#[],boot_drawn,boot_toks):=boot_open (by kernel_rfl) (by decide) (fun _=>by kernel_rfl)
theorem size0 (w : World) : ((boot_heap w.params).isNs mainGlobals && (#[] : Array GenState).size == 0,(boot_heap w.params).objs.size,(boot_heap w.params).nsMap mainGlobals "__annotations__") = (true,11,some (.ref 6)):=by kernel_rfl
theorem look0 (w : World) (os : OsState) : (staticsOk (importedModules pwP.main.body) (boot_heap w.params) (H1 w.params) && namesBound pwP (H1 w.params) && gensDone ⟨H1 w.params,#[],{},650,os⟩ && laidKept (boot_heap w.params) (H1 w.params)) = true:=by kernel_rfl
theorem look1 (w : World) (os : OsState) : openSeen qL looseL (importedModules pwP.main.body) (fun _=>true) true ⟨H1 w.params,#[],{},650,os⟩ = openGood qL looseL:=by
  rw [Fast.te4187177175401517315]; kernel_rfl
end
end Mine
namespace Mine
open PySem PySem.W PyProof.Rows PySem.Calls
noncomputable section
noncomputable def KF (P : Params) : Frag:=(lstF P).zipIdx.map fun x=>(x.2,x.1)
theorem leftL : LeftO pwP qL looseL (fun _=>true) (fun s=>s.heap) (fun w=>H1 w.params) 5548 :=
  LeftO.of_pieces open0 size0 runL (by decide) fun w=>funext fun os=>by
    rw [look0,look1]
theorem KF_in (w : World) : (KF w.params).In (H1 w.params):=by
  rw [H1_eq]
  exact InK.of (K:=KF) (as:=List.range 308) (fun P=>by kernel_rfl) w ⟨⟨(lstF w.params).toArray,{}⟩,#[],{},650,default⟩ (by kernel_rfl)
end
end Mine
namespace Mine
open PySem PySem.W PyProof.Rows PySem.Calls
noncomputable section
noncomputable def docA (K : Frag) (a : Addr) : Value:=match K.lookup a with
  | some ⟨_,_,.func fd,_⟩=>fd.doc
  | _=>.none
noncomputable def objA (K : Frag) (a : Addr) : Obj:=(K.lookup a).getD default
noncomputable def clsA (K : Frag) (a : Addr) : ClassData:=match K.lookup a with
  | some ⟨_,_,.cls c,_⟩=>c
  | _=>default
section
variable {w : World} {mg mb : Str→Option Value} {h : Heap} (X : (KF w.params).In h) (Gn : h.Ns mainGlobals mg) (Bn : ∀ x : Str,x ≠ "__name__" → mb x = bootBuiltins x)
include X Gn
theorem g_of {n : Str} {v : Value} (e : nsIn (KF w.params) mainGlobals n = some (some v)) : mg n = some v:=mg_of X Gn e
theorem nmT : NmT mg:=⟨⟨_,g_of (v:=.int (-1) 407) X Gn (by kernel_rfl)⟩,⟨_,g_of (v:=.int (-2) 410) X Gn (by kernel_rfl)⟩⟩
include Bn
theorem b_of {n : Str} {v : Value} (e : nsIn (KF w.params) mainGlobals n = some none) (hn : n ≠ "__name__") (q : bootBuiltins n = some v) : mg n = none∧mb n = some v:=⟨mg_none_of X Gn e,(Bn n hn).trans q⟩
theorem nmK : Nm mg mb:=by
  constructor <;> exact b_of X Gn Bn (by kernel_rfl) (by decide) (by kernel_rfl)
theorem nmY : NmY mg mb:=by
  constructor <;> exact b_of X Gn Bn (by kernel_rfl) (by decide) (by kernel_rfl)
end
variable {w : World}
theorem fnA {P : Params} {a : Addr} {fd : FuncData} (e : (KF P).lookup a = some { cls:=.type "function",data:=.func fd }) (c : codeIn (KF P) fd.code fd.qualname = true) : FnAt (KF P) a fd:=⟨e,c⟩
theorem fLaw {P : Params} : FnAt (KF P) 307 fdLaw:=fnA (by kernel_rfl) (by kernel_rfl)
theorem soK {P : Params} : SoK (KF P):=by
  refine ⟨by kernel_rfl,by kernel_rfl,by kernel_rfl,by kernel_rfl,⟨clsA (KF P) 261,by kernel_rfl,by kernel_rfl⟩,by kernel_rfl,by kernel_rfl,by kernel_rfl,by kernel_rfl,by kernel_rfl,by kernel_rfl,by kernel_rfl,by kernel_rfl,⟨167,?_⟩,⟨166,?_⟩,⟨165,?_⟩,⟨objA (KF P) 1,by kernel_rfl⟩⟩
  all_goals exact ⟨by kernel_rfl,by kernel_rfl,by kernel_rfl,by kernel_rfl⟩
theorem soM {P : Params} : SoM (KF P) :=
  ⟨⟨by kernel_rfl,fnA (by kernel_rfl) (by kernel_rfl)⟩,⟨by kernel_rfl,docA (KF P) 211,fnA (by kernel_rfl) (by kernel_rfl)⟩,⟨by kernel_rfl,docA (KF P) 216,fnA (by kernel_rfl) (by kernel_rfl)⟩,⟨by kernel_rfl,docA (KF P) 223,fnA (by kernel_rfl) (by kernel_rfl)⟩,⟨by kernel_rfl,docA (KF P) 244,fnA (by kernel_rfl) (by kernel_rfl)⟩,⟨by kernel_rfl,fnA (by kernel_rfl) (by kernel_rfl)⟩⟩
theorem starA {P : Params} : StarK (KF P) "add" 211:=⟨by kernel_rfl,by kernel_rfl,by kernel_rfl,by kernel_rfl⟩
theorem starD {P : Params} : StarK (KF P) "done" 244:=⟨by kernel_rfl,by kernel_rfl,by kernel_rfl,by kernel_rfl⟩
theorem misE {P : Params} : MisE (KF P):=⟨by kernel_rfl,by kernel_rfl,by kernel_rfl⟩
theorem look9 {P : Params} : ∃ bm ns nm qn bs hd sn sub ab col dd k0 k1 k2 k3 k5,(KF P).lookup 179 = some (excClassObj nm qn 179 ns bs bm hd sn sub ab col dd k0 k1 k2 k3 k5 "ValueError.__new__")∧nsOkIn (KF P) ns = true∧nsIn (KF P) ns "__init__" = some none∧tailIn (KF P) bmV bm = true :=
  ⟨[.type "ValueError",.type "Exception",.type "BaseException",.type "object"],178,"CycleError","CycleError",[.type "ValueError"],true,[],[],false,none,none,some (.ref 170),none,some (.str "CycleError" 449),some (.str "CycleError" 457),some (.bool true),by kernel_rfl,by kernel_rfl,by kernel_rfl,by kernel_rfl⟩
noncomputable def esA (K : Frag) (a : Addr) : Array DictEntry:=match K.lookup a with
  | some ⟨_,_,.dict es _,_⟩=>es
  | _=>#[]
noncomputable def isD (K : Frag) (a : Addr) : Bool:=match K.lookup a with
  | some ⟨_,_,.dict es _,_⟩=>es.toList.all fun e=>match e.key with
    | .str _ _=>true
    | _=>false
  | _=>false
theorem ns_of {K : Frag} {h : Heap} {a : Addr} (X : K.In h) (e : isD K a = true) : h.Ns a (nsFind (esA K a)):=by
  unfold isD at e
  unfold esA
  split at e
  · rename_i c d es n sl q
    refine ⟨_,es,n,X _ _ q,rfl,fun y hy=>?_,fun _=>rfl⟩
    have:=List.all_eq_true.mp e y (Array.mem_toList_iff.mpr hy)
    revert this
    cases y.key <;> simp
  · cases e
theorem glK {P : Params} {h : Heap} (X : (KF P).In h) : ∃ mg mb,Gl (KF P) mg mb h∧mg "tuple" = none∧mb "tuple" = some (.type "tuple") :=
  ⟨_,_,⟨ns_of X (a:=mainGlobals) (by kernel_rfl),ns_of X (a:=builtinsNs) (by kernel_rfl),X,⟨_,ns_of X (a:=cStatics) (by kernel_rfl),by kernel_rfl⟩⟩,by kernel_rfl,by kernel_rfl⟩
theorem misMk {w : World} : MisMk pwP w (KF w.params) :=
  { gl:=fun _ X=>glK X
    cls:=⟨(objA (KF w.params) 135).cls,(objA (KF w.params) 135).dict,clsA (KF w.params) 135,(objA (KF w.params) 135).slots,by kernel_rfl,by kernel_rfl,by kernel_rfl⟩
    made:=by kernel_rfl
    call:=by kernel_rfl
    typ:=by kernel_rfl
    rd:=by kernel_rfl
    nw:=by kernel_rfl
    sm:=by kernel_rfl
    fn:=⟨docA (KF w.params) 82,by kernel_rfl,by kernel_rfl⟩
    slf:=by kernel_rfl
    tup:=by kernel_rfl
    obj:=by kernel_rfl
    ini:=by kernel_rfl
    isT:=by kernel_rfl
    here:=by kernel_rfl
    chk:=fun _=>by kernel_rfl
    tga:=by kernel_rfl
    tnew:=by kernel_rfl }
theorem makeK {w : World} : MakeK pwP w (KF w.params) :=
  { gl:=fun _ X=>let ⟨mg,mb,G,_⟩:=glK X; ⟨mg,mb,G⟩
    sk:=soK
    m1:=by kernel_rfl
    i1:=by kernel_rfl
    f1:=by kernel_rfl
    d1:=fnA (by kernel_rfl) (by kernel_rfl)
    p1:=fun _=>by kernel_rfl
    m2:=by kernel_rfl
    i2:=by kernel_rfl
    f2:=by kernel_rfl
    d2:=fnA (by kernel_rfl) (by kernel_rfl) }
theorem misK {k : Nat} {name : Str} {gk dx : Addr} {t : Tok} (fnd : findObj (KF w.params) 135 (some { cls:=.type "dict",data:=.dict #[] }) name = some (.bind (.ref 43) (.ref gk)))
    (pk : ∀ a : Addr,peek (KF w.params) ⟨pwP,w.params⟩ (bindArgs (fdGet (.ref 36) .none) ⟨[.ref gk,.ref a,.ref 135],[]⟩) = some ([("self",.ref gk),("obj",.ref a),("objtype",.ref 135)] : List (Str × Value)))
    (i1 : (KF w.params).lookup gk = some { cls:=.ref 60,dict:=some dx }) (i2 : (KF w.params).lookup dx = some (objA (KF w.params) dx)) (i3 : findObj (KF w.params) 60 (some (objA (KF w.params) dx)) "index" = some (.value (.int (k : Nat) t))) : MisK pwP w (KF w.params) name k gk :=
  ⟨by kernel_rfl,by kernel_rfl,fnd,by kernel_rfl,⟨.ref 36,.none,fnA (by kernel_rfl) (by kernel_rfl),pk⟩,by kernel_rfl,by kernel_rfl,⟨dx,_,t,i1,i2,i3⟩,by kernel_rfl,fun _ _ _ X P=>iss_call X (by kernel_rfl) (by kernel_rfl) P⟩
theorem lawK {mg mb : Str→Option Value} {h : Heap} (X : (KF w.params).In h) (Gn : h.Ns mainGlobals mg) (Bn : ∀ x : Str,x ≠ "__name__" → mb x = bootBuiltins x) : LawK pwP w (KF w.params) mg mb :=
  { n:=nmK X Gn Bn
    fLaw:=fLaw
    fNum:=fnA (by kernel_rfl) (by kernel_rfl)
    fSteps:=fnA (by kernel_rfl) (by kernel_rfl)
    fRow:=fnA (by kernel_rfl) (by kernel_rfl)
    fBehind:=fnA (by kernel_rfl) (by kernel_rfl)
    fRun:=fnA (by kernel_rfl) (by kernel_rfl)
    fRight:=fnA (by kernel_rfl) (by kernel_rfl)
    nNum:=g_of X Gn (by kernel_rfl)
    nSteps:=g_of X Gn (by kernel_rfl)
    nRow:=g_of X Gn (by kernel_rfl)
    nBehind:=g_of X Gn (by kernel_rfl)
    nRun:=g_of X Gn (by kernel_rfl)
    nRight:=g_of X Gn (by kernel_rfl)
    right :=
      { nmc:=⟨g_of X Gn (by kernel_rfl),⟨objA (KF w.params) 135,clsA (KF w.params) 135,by kernel_rfl,by kernel_rfl,by kernel_rfl⟩⟩
        mn:=mis_new misMk
        me:=misE
        g0:=⟨124,misK (dx:=123) (t:=346) (by kernel_rfl) (fun _=>by kernel_rfl) (by kernel_rfl) (by kernel_rfl) (by kernel_rfl)⟩
        g1:=⟨127,misK (dx:=126) (t:=356) (by kernel_rfl) (fun _=>by kernel_rfl) (by kernel_rfl) (by kernel_rfl) (by kernel_rfl)⟩
        g2:=⟨130,misK (dx:=129) (t:=366) (by kernel_rfl) (fun _=>by kernel_rfl) (by kernel_rfl) (by kernel_rfl) (by kernel_rfl)⟩
        cnt:=⟨docA (KF w.params) 145,fnA (by kernel_rfl) (by kernel_rfl)⟩
        due:=fnA (by kernel_rfl) (by kernel_rfl)
        ncnt:=g_of X Gn (by kernel_rfl)
        ndue:=g_of X Gn (by kernel_rfl) }
    ns:=⟨g_of X Gn (by kernel_rfl),⟨objA (KF w.params) 164,clsA (KF w.params) 164,by kernel_rfl,by kernel_rfl,by kernel_rfl⟩⟩
    nn:=node_new makeK
    nt:=nmT X Gn
    ny:=nmY X Gn Bn
    nr:=⟨g_of X Gn (by kernel_rfl),⟨objA (KF w.params) 261,clsA (KF w.params) 261,by kernel_rfl,by kernel_rfl,by kernel_rfl⟩⟩
    sn:=sort_new makeK
    sk:=soK
    sm:=soM
    ma:=starA
    md:=starD
    cy:=⟨g_of X Gn (by kernel_rfl),look9⟩ }
end
end Mine
open PySem PySem.W PyProof.Rows PySem.Calls
namespace Mine
noncomputable section
noncomputable def dL : DefRec:={ name := "law",params:=argsOf (tp 20),body:=bodyOf (tp 20),scope:=scopeOf (tp 20),pos:=⟨329,0,344,15⟩ }
theorem def0 : defOf qL PySem.Challenge.rw_ox0192_01.row.name = some (dL,[]):=by kernel_rfl
theorem def1 : PySem.Challenge.rw_ox0192_01.row.prog.theDef PySem.Challenge.rw_ox0192_01.row.name = some (dL.params,dL.body,dL.scope):=by kernel_rfl
theorem def2 : kwWritten? dL.params.kwonlyargs dL.params.kw_defaults = some []:=by kernel_rfl
theorem wit0 : PySem.Challenge.rw_ox0192_01.row.toRowW.promised:=⟨[.list []],by kernel_rfl,by kernel_rfl⟩
theorem said0 : PySem.Challenge.rw_ox0192_01.wellSaid = true:=by rw [Fast.te9446332074065402090]; kernel_rfl
theorem holdsL (call : WalkO qL looseL (fun _ _=>True) (fun w h=>(KF w.params).In h) PySem.Challenge.rw_ox0192_01.row.toRowW dL [] fun f vs=>PySem.call f vs) : PySem.Challenge.rw_ox0192_01.Holds :=
  holds_law said0 fun said=>holds_open (q:=qL) (loose:=looseL) (Xt:=fun _=>true) (XP:=fun _ _=>True) (Yf:=fun s=>s.heap) (Ya:=fun w=>H1 w.params) (YP:=fun w h=>(KF w.params).In h) (N:=5548) leftL (fun w s e=>by rw [e]; exact KF_in w) (fun w h h' X k a o e=>k _ _ (X a o e)) (fun _ _=>trivial) (fun _ _ _ h _=>h)
    def0 def1 def2 (fun _ _=>recFacts_nil rfl) rfl said (by kernel_rfl) ⟨rfl,rfl,rfl,rfl,rfl,by kernel_rfl⟩ wit0 call
end
end Mine
namespace Mine
open PySem PySem.W PyProof.Rows PySem.Calls
theorem arg_law {s₀ s₁ : Shared} {w : World} {args : List WData} {vals : List Value} {as : List Addr} (hpre : PySem.Challenge.rw_ox0192_01.row.toRowW.claim.pre args = true) (hlay : WData.layableAll args = true) (hrd : ReadsAllW PySem.Challenge.rw_ox0192_01.row.toRowW.records (classAt s₀.heap) s₁.heap vals args as)
    (hwl : WellAll w.params s₁.heap vals args) (hlo : ∀ a ∈ as,(a == sysModules) = false) : ∃ (v : Value) (ns : List Int),vals = [v]∧ns.length ≤ 63∧Rp s₁.heap [] v (.list (ns.map .int)):=by
  wrow_args hpre hlay hrd hwl hlo
  rename Heap.IsList _ _ _=>hL
  rename IntsAre _ _=>hI
  rename Well _ _ _ _=>hW
  refine ⟨_,_,rfl,?_,.mkList (vs:=_) ?_ (fun h=>nomatch h) (.ofInts hI)⟩
  · rename ¬ _=>hc
    omega
  · obtain ⟨o,e1,e2,n,e3⟩:=hL
    cases hW with
    | list e _ =>
      rw [e1] at e
      cases e
      cases e3
      exact ⟨_,e1⟩
end Mine
namespace Mine
open PySem PySem.W PyProof.Rows PySem.Calls
theorem walkL : WalkO qL looseL (fun _ _=>True) (fun w h=>(KF w.params).In h) PySem.Challenge.rw_ox0192_01.row.toRowW dL [] fun f vs=>PySem.call f vs:=by
  intro w s₀ s₁ mg mb G Y fa o pm cd doc dV kV ho hd hcd hD hmg hg args vals as hpre hlay hrd hwl hlo
  have T:=G.T
  have hf : fa = 307:=by
    have e : mg "law" = some (.ref 307):=mg_of Y T.g (by kernel_rfl)
    have e2 : mg "law" = some (.ref fa):=hmg
    rw [e] at e2
    injection e2 with e2
    injection e2 with e2
    exact e2.symm
  subst hf
  have LK:=lawK Y T.g T.builtins
  clear ho hd hcd hD hmg
  obtain ⟨v,ns,rfl,hn,r⟩:=arg_law hpre hlay hrd hwl hlo
  exact wpAny_mono (law_call (A:=callerA) LK ⟨rfl,by decide,by decide⟩ (by decide) (by decide) rfl hn ⟨T.g,T.b,Y,T.nolimit⟩ r)
    (fun u s' ⟨e,h',tk,e2,k⟩=>by
      subst e; subst e2
      exact ⟨.inl ⟨_,_,[],rfl,fun _=>rfl,ReadsW.bool true,by wrow_post,fun _=>⟨List.nodup_nil,fun _ hm=>(nomatch hm)⟩⟩,.of_keep k,rfl,.of_eq hg⟩)
    (fun _ _ x=>x)
end Mine
theorem PySem.Challenge.cw_ox0192_01_holds : PySem.Challenge.rw_ox0192_01.Holds := by
  exact Mine.holdsL Mine.walkL
