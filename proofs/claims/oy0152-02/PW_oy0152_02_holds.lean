import PyProof.Rows.All
import Wide.All
import OpenK.AllK
import Wide.FinOn
import PyProof.StrLawsTight
import PyProof.StrLawsFrom
import PyProof.StrLawsIdx
import PyProof.StrLawsChain
import KE.IntTextLaws
import KE.KIntText
import KE.KTryMore
import PyProof.ExcStrCall
import PyProof.ExcBaseAll.Exception
import KE.KEqDict
import KE.KBits
import Lean
import PySem.Challenge.RW_oy0152_02
set_option Elab.async false
set_option linter.all false
set_option genSizeOf false
set_option tactic.hygienic false
set_option genInjectivity false
namespace Mine
open PySem PySem.W PyProof.Rows
theorem bMp {α β : Type} {o : Option α} {f : α → Option β} {b : β} (h : o.bind f = some b) : ∃ a,o = some a ∧ f a = some b:=Option.bind_eq_some_iff.mp h
theorem oMp {α β : Type} {o : Option α} {f : α → β} {b : β} (h : o.map f = some b) : ∃ a,o = some a ∧ f a = b:=Option.map_eq_some_iff.mp h
theorem lMp {α β : Type} {l : List α} {f : α → β} {b : β} (h : b ∈ l.map f) : ∃ a,a ∈ l ∧ f a = b:=List.mem_map.mp h
theorem lMr {α β : Type} {l : List α} {f : α → β} {b : β} (h : ∃ a,a ∈ l ∧ f a = b) : b ∈ l.map f:=List.mem_map.mpr h
theorem cMp {α : Type} {l : List α} {a b : α} (h : a ∈ b :: l) : a = b ∨ a ∈ l:=List.mem_cons.mp h
theorem sMp {α : Type} {a b : α} (h : a ∈ [b]) : a = b:=List.mem_singleton.mp h
theorem fMp {α : Type} {l : List α} {p : α → Bool} {a : α} (h : a ∈ l.filter p) : a ∈ l ∧ p a = true:=List.mem_filter.mp h
theorem fMr {α : Type} {l : List α} {p : α → Bool} {a : α} (h : a ∈ l ∧ p a = true) : a ∈ l.filter p:=List.mem_filter.mpr h
theorem aMp {a b : Bool} (h : (a && b) = true) : a = true ∧ b = true:=Bool.and_eq_true_iff.mp h
section
noncomputable abbrev PP:=Challenge.pw_oy0152_02
noncomputable def nth (l : List Stmt) (i : Nat) : Stmt:=l[i]?.getD (.Pass ⟨0,0,0,0⟩)
noncomputable def fdv (s : Stmt) : Arguments × List Stmt × Scope:=if h : s.ctorIdx = 0 then Stmt.FunctionDef.elim (motive_2:=fun ζ => Arguments × List Stmt × Scope) s h fun ζ args body ζ ζ ζ scope ζ ζ ζ => (args,body,scope) else (default,[],default)
noncomputable def bodyOf (s : Stmt) : List Stmt:=(fdv s).2.1
noncomputable def argsOf (s : Stmt) : Arguments:=(fdv s).1
noncomputable def scopeOf (s : Stmt) : Scope:=(fdv s).2.2
end
section
class Base where
 h : Heap
variable [bs : Base]
noncomputable def Alike (b : Addr) (o o' : Obj) : Prop:=o' = o ∨ (Base.h.get? b = none ∧ o.cls = .type "frame" ∧ o'.cls = .type "frame" ∧ o'.data = o.data ∧ o'.dict = o.dict)
theorem Alike.refl {b : Addr} (o : Obj) : Alike b o o:=.inl rfl
theorem Alike.trans {i : Addr} {a b c : Obj} (x : Alike i a b) (y : Alike i b c) : Alike i a c:=by
 rcases x with rfl | x
 ·exact y
 ·rcases y with rfl | y
  ·exact .inr x
  ·exact .inr ⟨x.1,x.2.1,y.2.2.1,y.2.2.2.1.trans x.2.2.2.1,y.2.2.2.2.trans x.2.2.2.2⟩
theorem Alike.same {i : Addr} {o o' : Obj} (x : Alike i o o') (h : o.cls ≠ .type "frame") : o' = o:=x.elim id fun y => absurd y.2.1 h
theorem Alike.data {i : Addr} {o o' : Obj} (x : Alike i o o') : o'.data = o.data:=x.elim (fun y => by rw [y]) fun y => y.2.2.2.1
theorem Alike.cls {i : Addr} {o o' : Obj} (x : Alike i o o') : o'.cls = o.cls:=x.elim (fun y => by rw [y]) fun y => y.2.2.1.trans y.2.1.symm
theorem Alike.old {i : Addr} {o o' ob : Obj} (x : Alike i o o') (h : Base.h.get? i = some ob) : o' = o:=x.elim id fun y => by rw [h] at y;cases y.1
noncomputable def Keep (h h' : Heap) : Prop:=∀ b o,h.get? b = some o → ∃ o',h'.get? b = some o' ∧ Alike b o o'
noncomputable def KeepBut (O : Addr → Prop) (h h' : Heap) : Prop:=∀ b o,¬ O b → h.get? b = some o → ∃ o',h'.get? b = some o' ∧ Alike b o o'
theorem Keep.of {h h' : Heap} (k : ∀ b o,h.get? b = some o → h'.get? b = some o) : Keep h h':=fun b o e => ⟨o,k b o e,.refl _⟩
theorem KeepBut.of {O : Addr → Prop} {h h' : Heap} (k : ∀ b o,¬ O b → h.get? b = some o → h'.get? b = some o) : KeepBut O h h':=fun b o n e => ⟨o,k b o n e,.refl _⟩
theorem Keep.same {h h' : Heap} (k : Keep h h') {b : Addr} {o : Obj} (e : h.get? b = some o) (c : o.cls ≠ .type "frame") : h'.get? b = some o:=by
 obtain ⟨o',e',a⟩:=k b o e
 rw [a.same c] at e';exact e'
theorem KeepBut.same {O : Addr → Prop} {h h' : Heap} (k : KeepBut O h h') {b : Addr} {o : Obj} (n : ¬ O b) (e : h.get? b = some o) (c : o.cls ≠ .type "frame") : h'.get? b = some o:=by
 obtain ⟨o',e',a⟩:=k b o n e
 rw [a.same c] at e';exact e'
theorem Keep.refl (h : Heap) : Keep h h:=fun ζ o e => ⟨o,e,.refl _⟩
theorem Keep.trans {h₁ h₂ h₃ : Heap} (x : Keep h₁ h₂) (y : Keep h₂ h₃) : Keep h₁ h₃:=fun b o e => let ⟨o',e',a⟩:=x b o e;let ⟨o'',e'',a'⟩:=y b o' e';⟨o'',e'',a.trans a'⟩
theorem Keep.push (h : Heap) (o : Obj) : Keep h (h.push o):=.of fun ζ ζ e => Heap.get?_push_of_some _ e
theorem Keep.but {O : Addr → Prop} {h h' : Heap} (x : Keep h h') : KeepBut O h h':=fun b o ζ e => x b o e
theorem KeepBut.refl (O : Addr → Prop) (h : Heap) : KeepBut O h h:=fun ζ o ζ e => ⟨o,e,.refl _⟩
theorem KeepBut.trans {O : Addr → Prop} {h₁ h₂ h₃ : Heap} (x : KeepBut O h₁ h₂) (y : KeepBut O h₂ h₃) : KeepBut O h₁ h₃:=fun b o n e => let ⟨o',e',a⟩:=x b o n e;let ⟨o'',e'',a'⟩:=y b o' n e';⟨o'',e'',a.trans a'⟩
theorem KeepBut.mono {O O' : Addr → Prop} {h h' : Heap} (x : KeepBut O h h') (hO : ∀ a,O a → O' a) : KeepBut O' h h':=fun b o n e => x b o (fun z => n (hO b z)) e
theorem KeepBut.of_sameBut {O : Addr → Prop} {a : Addr} {h h' : Heap} (x : Heap.SameBut a h h') (ha : O a) : KeepBut O h h':=.of fun b o n e => x.extBut b o (fun z => n (z ▸ ha)) e
theorem KeepBut.of_extBut {O : Addr → Prop} {a : Addr} {h h' : Heap} (x : Heap.ExtBut a h h') (ha : O a) : KeepBut O h h':=.of fun b o n e => x b o (fun z => n (z ▸ ha)) e
noncomputable def Old (O : Addr → Prop) (h : Heap) : Prop:=∀ a,O a → ∃ o,h.get? a = some o
theorem fresh_size (h : Heap) : h.get? h.objs.size = none:=by
 cases e : h.get? h.objs.size with
 | none => rfl
 | some o => exact absurd (Heap.lt_size e) (Nat.lt_irrefl _)
theorem Keep.none {h h' : Heap} (k : Keep h h') {a : Addr} (e : h'.get? a = none) : h.get? a = none:=by
 cases e' : h.get? a with
 | none => rfl
 | some o => obtain ⟨o',e'',_⟩:=k a o e';rw [e''] at e;cases e
theorem Old.keep {O : Addr → Prop} {h h' : Heap} (x : Old O h) (k : Keep h h') : Old O h':=fun a z => let ⟨o,e⟩:=x a z;let ⟨o',e',_⟩:=k a o e;⟨o',e'⟩
theorem Old.not {O : Addr → Prop} {h : Heap} (x : Old O h) {a : Addr} (e : h.get? a = none) : ¬ O a:=fun z => by obtain ⟨o,e'⟩:=x a z;rw [e] at e';cases e'
noncomputable def PL (h : Heap) (a : Addr) (vs : List Value) : Prop:=∃ n,h.get? a = some { cls:=.type "list",data:=.seq vs.toArray n }
noncomputable def PT (h : Heap) (a : Addr) (vs : List Value) : Prop:=∃ n,h.get? a = some { cls:=.type "tuple",data:=.seq vs.toArray n }
theorem PL.isList {h : Heap} {a : Addr} {vs : List Value} (x : PL h a vs) : h.IsList a vs.toArray:=let ⟨n,e⟩:=x;⟨_,e,rfl,n,rfl⟩
theorem PT.isTuple {h : Heap} {a : Addr} {vs : List Value} (x : PT h a vs) : h.IsTuple a vs.toArray:=let ⟨n,e⟩:=x;⟨_,e,rfl,n,rfl⟩
theorem PL.keep {h h' : Heap} {a : Addr} {vs : List Value} (x : PL h a vs) (k : ∀ o,h.get? a = some o → h'.get? a = some o) : PL h' a vs:=let ⟨n,e⟩:=x;⟨n,k _ e⟩
theorem PL.keepK {h h' : Heap} {a : Addr} {vs : List Value} (x : PL h a vs) (k : Keep h h') : PL h' a vs:=let ⟨n,e⟩:=x;⟨n,k.same e (by simp)⟩
theorem PT.keepK {h h' : Heap} {a : Addr} {vs : List Value} (x : PT h a vs) (k : Keep h h') : PT h' a vs:=let ⟨n,e⟩:=x;⟨n,k.same e (by simp)⟩
theorem PL.off {J : Addr → Prop} {h h' : Heap} {a : Addr} {vs : List Value} (l : PL h a vs) (k : KeepBut J h h') (hJ : ¬ J a) : PL h' a vs:=let ⟨n,e⟩:=l;⟨n,k.same hJ e (by simp)⟩
theorem PT.off {J : Addr → Prop} {h h' : Heap} {a : Addr} {vs : List Value} (l : PT h a vs) (k : KeepBut J h h') (hJ : ¬ J a) : PT h' a vs:=let ⟨n,e⟩:=l;⟨n,k.same hJ e (by simp)⟩
theorem ns_alike {h h' : Heap} {a : Addr} {m : Str → Option Value} (x : h.Ns a m) (e : ∀ o,h.get? a = some o → ∃ o',h'.get? a = some o' ∧ Alike a o o') : h'.Ns a m:=by
 obtain ⟨o,es,ep,ho,hd,r⟩:=x
 obtain ⟨o',ho',al⟩:=e o ho
 exact ⟨o',es,ep,ho',al.data.trans hd,r⟩
theorem ns_keep {h h' : Heap} {a : Addr} {m : Str → Option Value} (x : h.Ns a m) (k : Keep h h') : h'.Ns a m:=ns_alike x fun o e => k a o e
theorem isCell_alike {h h' : Heap} {c : Addr} {v : Option Value} (x : h.IsCell c v) (e : ∀ o,h.get? c = some o → ∃ o',h'.get? c = some o' ∧ Alike c o o') : h'.IsCell c v :=
 let ⟨o,ho,r⟩:=x;let ⟨o',ho',al⟩:=e o ho;⟨o',ho',al.data.trans r⟩
section
variable (prog : Program) (w : World)
mutual
inductive Rep (O : Addr → Prop) (h : Heap) : Value → PyData → Prop
 | none : Rep O h .none .none
 | bool (b) : Rep O h (.bool b) (.bool b)
 | int (i t) : Rep O h (.int i t) (.int i)
 | str (x t) : Rep O h (.str x t) (.str x)
 | list {a vs xs} : ¬ O a → PL h a vs → RepAll O h vs xs → Rep O h (.ref a) (.list xs)
 | tuple {a vs xs} : ¬ O a → PT h a vs → RepAll O h vs xs → Rep O h (.ref a) (.tuple xs)
 | dict {a} {ents : List (Str × Value)} {xs} : ¬ O a → a ≠ sysModules → h.DictOf (strKind prog w) a ents → RepAll O h (ents.map (·.2)) xs →
   Rep O h (.ref a) (.dict ((ents.map fun e => PyData.str e.1).zip xs))
inductive RepAll (O : Addr → Prop) (h : Heap) : List Value → List PyData → Prop
 | nil : RepAll O h [] []
 | cons {v vs d ds} : Rep O h v d → RepAll O h vs ds → RepAll O h (v :: vs) (d :: ds)
end
end
noncomputable def Tree (o : Obj) : Prop:=o.cls = .type "list" ∨ o.cls = .type "tuple" ∨ o.cls = .type "dict"
theorem Tree.not {o : Obj} (t : Tree o) : o.cls ≠ .type "frame":=by
 unfold Tree at t
 rcases t with t | t | t <;> rw [t] <;> simp
section
variable {prog : Program} {w : World} {O O' : Addr → Prop} {h h' : Heap}
theorem Rep.map (k : ∀ a o,¬ O a → Tree o → h.get? a = some o → ¬ O' a ∧ h'.get? a = some o) {v : Value} {d : PyData} (r : Rep prog w O h v d) : Rep prog w O' h' v d :=
 r.rec (motive_1:=fun v d ζ => Rep prog w O' h' v d) (motive_2:=fun vs ds ζ => RepAll prog w O' h' vs ds) .none .bool .int .str
  (fun n l ζ i => let ⟨m,e⟩:=l;let z:=k _ _ n (.inl rfl) e;.list z.1 ⟨m,z.2⟩ i) (fun n l ζ i => let ⟨m,e⟩:=l;let z:=k _ _ n (.inr (.inl rfl)) e;.tuple z.1 ⟨m,z.2⟩ i)
  (fun n m l ζ i => let ⟨o,es,ep,ho,hc,q⟩:=l;let z:=k _ _ n (.inr (.inr hc.1)) ho;.dict z.1 m ⟨o,es,ep,z.2,hc,q⟩ i) .nil fun ζ ζ i j => .cons i j
theorem RepAll.map (k : ∀ a o,¬ O a → Tree o → h.get? a = some o → ¬ O' a ∧ h'.get? a = some o) {vs : List Value} {ds : List PyData} (r : RepAll prog w O h vs ds) : RepAll prog w O' h' vs ds :=
 r.rec (motive_1:=fun ζ ζ ζ => True) (motive_2:=fun vs ds ζ => RepAll prog w O' h' vs ds) trivial (fun ζ => trivial) (fun ζ ζ => trivial) (fun ζ ζ => trivial) (fun ζ ζ ζ ζ => trivial) (fun ζ ζ ζ ζ => trivial) (fun ζ ζ ζ ζ ζ => trivial) .nil fun x ζ ζ j => .cons (x.map k) j
theorem Rep.keepBut {v : Value} {d : PyData} (r : Rep prog w O h v d) (k : KeepBut O h h') : Rep prog w O h' v d:=r.map fun ζ ζ n t e => ⟨n,k.same n e t.not⟩
theorem RepAll.keepBut {vs : List Value} {ds : List PyData} (r : RepAll prog w O h vs ds) (k : KeepBut O h h') : RepAll prog w O h' vs ds:=r.map fun ζ ζ n t e => ⟨n,k.same n e t.not⟩
theorem Rep.keep {v : Value} {d : PyData} (r : Rep prog w O h v d) (k : Keep h h') : Rep prog w O h' v d:=r.keepBut k.but
theorem RepAll.keep {vs : List Value} {ds : List PyData} (r : RepAll prog w O h vs ds) (k : Keep h h') : RepAll prog w O h' vs ds:=r.keepBut k.but
theorem RepAll.otherC {vs : List Value} {ds : List PyData} (r : RepAll prog w O h vs ds) (k : ∀ a o,h.get? a = some o → Tree o → ¬ O a → ¬ O' a) : RepAll prog w O' h vs ds:=r.map fun a o n t e => ⟨k a o e t n,e⟩
theorem Rep.otherC {v : Value} {d : PyData} (r : Rep prog w O h v d) (k : ∀ a o,h.get? a = some o → Tree o → ¬ O a → ¬ O' a) : Rep prog w O' h v d:=r.map fun a o n t e => ⟨k a o e t n,e⟩
theorem Rep.other {v : Value} {d : PyData} (r : Rep prog w O h v d) (k : ∀ a o,h.get? a = some o → ¬ O a → ¬ O' a) : Rep prog w O' h v d:=r.otherC fun a o e ζ => k a o e
theorem Rep.less {v : Value} {d : PyData} (r : Rep prog w O h v d) (k : ∀ a,O' a → O a) : Rep prog w O' h v d:=r.otherC fun a ζ ζ ζ n z => n (k a z)
theorem RepAll.less {vs : List Value} {ds : List PyData} (r : RepAll prog w O h vs ds) (k : ∀ a,O' a → O a) : RepAll prog w O' h vs ds:=r.otherC fun a ζ ζ ζ n z => n (k a z)
theorem Rep.more {v : Value} {d : PyData} (r : Rep prog w O h v d) (k : ∀ a,O' a → O a ∨ h.get? a = Option.none) : Rep prog w O' h v d :=
 r.otherC fun a ζ e ζ n z => (k a z).elim n fun l => nomatch e.symm.trans l
theorem RepAll.more {vs : List Value} {ds : List PyData} (r : RepAll prog w O h vs ds) (k : ∀ a,O' a → O a ∨ h.get? a = Option.none) : RepAll prog w O' h vs ds :=
 r.otherC fun a ζ e ζ n z => (k a z).elim n fun l => nomatch e.symm.trans l
noncomputable def RepIs (prog : Program) (w : World) (O : Addr → Prop) (h : Heap) (v : Value) : PyData → Prop
 | .none => v = .none
 | .bool b => v = .bool b
 | .int i => ∃ t,v = .int i t
 | .str x => ∃ t,v = .str x t
 | .list xs => ∃ a vs,v = .ref a ∧ ¬ O a ∧ PL h a vs ∧ RepAll prog w O h vs xs
 | .tuple xs => ∃ a vs,v = .ref a ∧ ¬ O a ∧ PT h a vs ∧ RepAll prog w O h vs xs
 | .dict kvs => ∃ (a : Addr) (ents : List (Str × Value)) (xs : List PyData),v = .ref a ∧ kvs = (ents.map fun e => PyData.str e.1).zip xs ∧ ¬ O a ∧ a ≠ sysModules ∧ h.DictOf (strKind prog w) a ents ∧ RepAll prog w O h (ents.map (·.2)) xs
theorem Rep.is {v : Value} {d : PyData} (r : Rep prog w O h v d) : RepIs prog w O h v d :=
 r.rec (motive_1:=fun v d ζ => RepIs prog w O h v d) (motive_2:=fun ζ ζ ζ => True) rfl (fun ζ => rfl) (fun ζ t => ⟨t,rfl⟩) (fun ζ t => ⟨t,rfl⟩) (fun n l r ζ => ⟨_,_,rfl,n,l,r⟩) (fun n l r ζ => ⟨_,_,rfl,n,l,r⟩) (fun n m l r ζ => ⟨_,_,_,rfl,rfl,n,m,l,r⟩) trivial fun ζ ζ ζ ζ => trivial
theorem RepAll.is {vs : List Value} {ds : List PyData} (r : RepAll prog w O h vs ds) : match ds with
  | [] => vs = []
  | d :: ds => ∃ u us,vs = u :: us ∧ Rep prog w O h u d ∧ RepAll prog w O h us ds :=
 r.rec (motive_1:=fun ζ ζ ζ => True) (motive_2:=fun vs ds ζ => match ds with
  | [] => vs = []
  | d :: ds => ∃ u us,vs = u :: us ∧ Rep prog w O h u d ∧ RepAll prog w O h us ds) trivial (fun ζ => trivial) (fun ζ ζ => trivial) (fun ζ ζ => trivial) (fun ζ ζ ζ ζ => trivial) (fun ζ ζ ζ ζ => trivial) (fun ζ ζ ζ ζ ζ => trivial) rfl fun x y ζ ζ => ⟨_,_,rfl,x,y⟩
@[elab_as_elim] theorem Rep.intE {v : Value} {i : Int} {P : Value → Prop} (r : Rep prog w O h v (.int i)) (k : ∀ t,P (.int i t)) : P v:=let ⟨t,e⟩:=r.is;e ▸ k t
@[elab_as_elim] theorem Rep.strE {v : Value} {x : Str} {P : Value → Prop} (r : Rep prog w O h v (.str x)) (k : ∀ t,P (.str x t)) : P v:=let ⟨t,e⟩:=r.is;e ▸ k t
@[elab_as_elim] theorem Rep.listE {v : Value} {xs : List PyData} {P : Value → Prop} (r : Rep prog w O h v (.list xs)) (k : ∀ a vs,¬ O a → PL h a vs → RepAll prog w O h vs xs → P (.ref a)) : P v:=let ⟨a,vs,e,n,l,q⟩:=r.is;e ▸ k a vs n l q
@[elab_as_elim] theorem Rep.tupleE {v : Value} {xs : List PyData} {P : Value → Prop} (r : Rep prog w O h v (.tuple xs)) (k : ∀ a vs,¬ O a → PT h a vs → RepAll prog w O h vs xs → P (.ref a)) : P v:=let ⟨a,vs,e,n,l,q⟩:=r.is;e ▸ k a vs n l q
@[elab_as_elim] theorem RepAll.nilE {vs : List Value} {P : List Value → Prop} (r : RepAll prog w O h vs []) (k : P []) : P vs:=(show vs = [] from r.is) ▸ k
@[elab_as_elim] theorem RepAll.consE {vs : List Value} {d : PyData} {ds : List PyData} {P : List Value → Prop} (r : RepAll prog w O h vs (d :: ds)) (k : ∀ u us,Rep prog w O h u d → RepAll prog w O h us ds → P (u :: us)) : P vs:=let ⟨u,us,e,x,y⟩:=r.is;e ▸ k u us x y
@[elab_as_elim] theorem RepAll.oneE {vs : List Value} {d : PyData} {P : List Value → Prop} (r : RepAll prog w O h vs [d]) (k : ∀ u,Rep prog w O h u d → P [u]) : P vs:=r.consE fun u ζ x y => y.nilE (k u x)
theorem RepAll.length {vs : List Value} {ds : List PyData} (r : RepAll prog w O h vs ds) : vs.length = ds.length:=by
 induction ds generalizing vs with
 | nil => exact congrArg List.length (show vs = [] from r.is)
 | cons d ds ih => obtain ⟨u,us,rfl,_,y⟩:=r.is;exact congrArg (· + 1) (ih y)
theorem RepAll.append {vs us : List Value} {ds es : List PyData} (r : RepAll prog w O h vs ds) (q : RepAll prog w O h us es) : RepAll prog w O h (vs ++ us) (ds ++ es):=by
 induction ds generalizing vs with
 | nil => rw [show vs = [] from r.is];exact q
 | cons d ds ih => obtain ⟨u,us,rfl,x,y⟩:=r.is;exact .cons x (ih y)
theorem RepAll.one {v : Value} {d : PyData} (r : Rep prog w O h v d) : RepAll prog w O h [v] [d]:=.cons r .nil
theorem RepAll.get {vs : List Value} {ds : List PyData} (r : RepAll prog w O h vs ds) (i : Nat) (v : Value) (e : vs[i]? = some v) : ∃ d,ds[i]? = some d ∧ Rep prog w O h v d:=by
 induction ds generalizing vs i with
 | nil => rw [show vs = [] from r.is] at e;cases e
 | cons d ds ih =>
  obtain ⟨u,us,rfl,x,y⟩:=r.is
  cases i with
  | zero => obtain rfl:=Option.some.inj e;exact ⟨d,rfl,x⟩
  | succ i => exact ih y i e
theorem RepAll.get' {vs : List Value} {ds : List PyData} (r : RepAll prog w O h vs ds) (i : Nat) (d : PyData) (e : ds[i]? = some d) : ∃ v,vs[i]? = some v ∧ Rep prog w O h v d:=by
 have hl : i < vs.length:=r.length ▸ (List.getElem?_eq_some_iff.mp e).1
 obtain ⟨d',e',x⟩:=r.get i vs[i] (List.getElem?_eq_getElem hl)
 rw [e] at e'
 obtain rfl:=Option.some.inj e'
 exact ⟨_,List.getElem?_eq_getElem hl,x⟩
theorem RepAll.pick {vs : List Value} {ds : List PyData} (r : RepAll prog w O h vs ds) (is : List Nat) : RepAll prog w O h (is.filterMap (vs[·]?)) (is.filterMap (ds[·]?)):=by
 induction is with
 | nil => exact .nil
 | cons i is ih =>
  rw [List.filterMap_cons,List.filterMap_cons]
  cases hd : ds[i]? with
  | none => rw [show vs[i]? = none from List.getElem?_eq_none_iff.mpr (r.length ▸ List.getElem?_eq_none_iff.mp hd)];exact ih
  | some d => obtain ⟨v,hv,x⟩:=r.get' i d hd;rw [hv];exact .cons x ih
theorem Rep.reads {v : Value} {d : PyData} (r : Rep prog w O h v d) : d.canLay0 = true → ∃ as,Reads h v d as :=
 r.rec (motive_1:=fun v d ζ => d.canLay0 = true → ∃ as,Reads h v d as) (motive_2:=fun vs ds ζ => PyData.canLayAll0 ds = true → ∃ as,ReadsAll h vs ds as) (fun ζ => ⟨_,.none⟩) (fun b ζ => ⟨_,.bool b⟩) (fun i t ζ => ⟨_,.int i t⟩) (fun x t ζ => ⟨_,.str x t⟩)
  (fun ζ l ζ i c => let ⟨_,ho⟩:=l;let ⟨_,ra⟩:=i c;⟨_,.list ho rfl rfl ra⟩) (fun ζ l ζ i c => let ⟨_,ho⟩:=l;let ⟨_,ra⟩:=i c;⟨_,.tuple ho rfl rfl ra⟩) (fun ζ ζ ζ ζ ζ c => nomatch c) (fun ζ => ⟨_,.nil⟩)
  fun ζ ζ i j c => let ⟨_,ra⟩:=i (aMp c).1;let ⟨_,rb⟩:=j (aMp c).2;⟨_,.cons ra rb⟩
end
end
section
variable [bs : Base]
noncomputable abbrev Vars:=List (Str × PyData)
noncomputable abbrev Names:=List (Str × NameKind)
theorem putName_cls (name : Str) (hh : Int) (key v : Value) (o : Obj) : (Obj.putName name hh key v o).cls = o.cls:=by
 obtain ⟨c,d,dt,sl⟩:=o
 rw [Obj.putName_eq]
 unfold Obj.putNameByArray
 cases dt <;> first | rfl | (dsimp only;split <;> rfl)
theorem putName_data (name : Str) (hh : Int) (key v : Value) {o : Obj} {es ep} (h : o.data = .dict es ep) : ∃ es' ep',(Obj.putName name hh key v o).data = .dict es' ep':=by
 obtain ⟨c,d,dt,sl⟩:=o
 simp only at h;subst h
 rw [Obj.putName_eq]
 unfold Obj.putNameByArray
 dsimp only
 split <;> exact ⟨_,_,rfl⟩
section
variable {M : Model} {A : Around} {E : Value → Shared → Prop} {s : Shared}
theorem nsSet_rule {a : Addr} {m : Str → Option Value} {name : Str} {v : Value} {Q : Unit → Shared → Prop} (hn : s.heap.Ns a m)
  (hQ : ∀ h',h'.Ns a (fun x => if x = name then some v else m x) → Heap.SameBut a s.heap h' → (∀ o,s.heap.get? a = some o → ∃ o' es ep,h'.get? a = some o' ∧ o'.cls = o.cls ∧ o'.data = .dict es ep) → Q () { s with heap:=h',toks:=s.toks + 1 }) :
  wpAny M A (nsSet a name v) Q E s:=by
 intro Γ p hΓ
 have base:=Sem.wp_nsSet M Γ (fun e ζ s' => E e s') p s hn name v (fun ζ ζ s' => ∃ h',s' = { s with heap:=h',toks:=s.toks + 1 } ∧ h'.Ns a (fun x => if x = name then some v else m x) ∧ Heap.SameBut a s.heap h')
  fun h' h1 h2 => ⟨h',rfl,h1,h2⟩
 obtain ⟨o,es,ep,ho,hd,hk,hm⟩:=hn
 simp only [nsSet,strHash,Sem.wp_bind',Sem.wp_cmd_ask,Sem.wp_pure',Sem.wp_cmd_mkText] at base ⊢
 rw [Sem.wp_loadPart_of M Γ _ p { s with toks:=s.toks + 1 } (o:=o) _ ho] at base ⊢
 have hany : es.any (·.refKey) = false:=by
  rw [Array.any_eq_false'];intro e he;obtain ⟨n,t,h⟩:=hk e he;simp [DictEntry.refKey,h]
 simp only [hd,aRefKeyMayBeTheName_eq,aRefKeyMayBeTheNameByArray,hany,Bool.and_false,Bool.false_eq_true,if_false,Sem.wp_cmd_updatePart] at base ⊢
 refine ⟨base.1,?_⟩
 obtain ⟨h',e1,e2,e3⟩:=base.2
 have e4:=congrArg Shared.heap e1
 simp only at e4
 subst e4
 refine hQ _ e2 e3 fun o' ho' => ?_
 rw [ho] at ho';obtain rfl:=Option.some.inj ho'
 obtain ⟨es',ep',hd'⟩:=putName_data name (if name.cps.isEmpty = true then 0 else reduceHash (M.w.params.strHash name.cps)) (Value.str name s.toks) v hd
 exact ⟨_,es',ep',Heap.get?_update_self _ ho (Obj.isFreed_of_dict hd'),putName_cls _ _ _ _ _,hd'⟩
end
noncomputable def LocCls (env : Env) (h h' : Heap) : Prop:=∀ o,h.get? env.locals = some o → ∃ o' es ep,h'.get? env.locals = some o' ∧ o'.cls = o.cls ∧ o'.data = .dict es ep
theorem LocCls.trans {env : Env} {h₁ h₂ h₃ : Heap} (x : LocCls env h₁ h₂) (y : LocCls env h₂ h₃) : LocCls env h₁ h₃:=fun o e => by
 obtain ⟨o',_,_,e',c',_⟩:=x o e
 obtain ⟨o'',es,ep,e'',c'',d''⟩:=y o' e'
 exact ⟨o'',es,ep,e'',c''.trans c',d''⟩
theorem LocCls.of_keep {env : Env} {h h' : Heap} {m : Str → Option Value} (hn : h.Ns env.locals m) (k : ∀ o,h.get? env.locals = some o → ∃ o',h'.get? env.locals = some o' ∧ Alike env.locals o o') : LocCls env h h':=fun o e => by
 obtain ⟨o₁,es,ep,e₁,d₁,_⟩:=hn
 rw [e] at e₁;obtain rfl:=Option.some.inj e₁
 obtain ⟨o',e',al⟩:=k o e
 exact ⟨o',es,ep,e',al.cls,al.data.trans d₁⟩
noncomputable def VarIs (h : Heap) (env : Env) (sc : Names) (x : Str) (v : Value) : Prop :=
 (sc.lookup x = some .local ∧ ∃ m,h.Ns env.locals m ∧ m x = some v) ∨ (sc.lookup x = some .cell ∧ ∃ c,env.cells.lookup x = some c ∧ h.IsCell c (some v))
theorem VarIs.keep {h h' : Heap} {env : Env} {sc : Names} {x : Str} {v : Value} (q : VarIs h env sc x v) (k : Keep h h') : VarIs h' env sc x v:=by
 rcases q with ⟨e,m,hn,hm⟩ | ⟨e,c,hc,hcl⟩
 ·exact .inl ⟨e,m,ns_keep hn k,hm⟩
 ·exact .inr ⟨e,c,hc,isCell_alike hcl fun o e => k c o e⟩
structure Kept (env : Env) (sc : Names) (X : List Str) (h h' : Heap) : Prop where
 lc : LocCls env h h'
 vk : ∀ y v,y ∉ X → VarIs h env sc y v → VarIs h' env sc y v
theorem Kept.trans {env : Env} {sc : Names} {X Y : List Str} {h₁ h₂ h₃ : Heap} (x : Kept env sc X h₁ h₂) (y : Kept env sc Y h₂ h₃) : Kept env sc (X ++ Y) h₁ h₃ :=
 ⟨x.lc.trans y.lc,fun z v n q => y.vk z v (fun h => n (List.mem_append_right _ h)) (x.vk z v (fun h => n (List.mem_append_left _ h)) q)⟩
theorem Kept.of_keep {env : Env} {sc : Names} {h h' : Heap} {m : Str → Option Value} (hn : h.Ns env.locals m) (k : Keep h h') : Kept env sc [] h h' :=
 ⟨.of_keep hn fun o e => k _ o e,fun ζ ζ ζ q => q.keep k⟩
structure FrS (sc : Names) (hF : Heap) (env : Env) : Prop where
 kind : env.scope.kind = .function
 glob : env.globals = mainGlobals
 blt : env.builtins = builtinsNs
 loc : ∀ x,sc.lookup x = some .local → env.kindOf x = some .local
 cel : ∀ x,sc.lookup x = some .cell → env.kindOf x = some .cell ∧ ∃ c,env.cells.lookup x = some c ∧ hF.get? c = none
 fre : ∀ x,sc.lookup x = some .free → (env.kindOf x = some .cell ∨ env.kindOf x = some .free)
 glo : ∀ x,sc.lookup x = some .globalImplicit → env.kindOf x = some .globalImplicit
 inj : ∀ x y c,env.cells.lookup x = some c → env.cells.lookup y = some c → x = y
 ncd : sc.lookup (Str.ofString "__classdict__") = none
 ndb : sc.lookup (Str.ofString "__debug__") = none
structure FrI (prog : Program) (w : World) (sc : Names) (hF : Heap) (O : Addr → Prop) (h : Heap) (env : Env) (ρ : Vars) : Prop extends FrS sc hF env where
 ns : ∃ m,h.Ns env.locals m ∧ ∀ x d,ρ.lookup x = some d → sc.lookup x = some .local → ∃ v,m x = some v ∧ Rep prog w O h v d
 cell : ∀ x,(sc.lookup x = some .cell ∨ sc.lookup x = some .free) → ∃ c ov,env.cells.lookup x = some c ∧ h.IsCell c ov ∧ ∀ d,ρ.lookup x = some d → ∃ v,ov = some v ∧ Rep prog w O h v d
 allc : ∀ x c,env.cells.lookup x = some c → ∃ ov,h.IsCell c ov
 oloc : O env.locals ∧ hF.get? env.locals = none
 ocell : ∀ x c,env.cells.lookup x = some c → O c ∧ c ≠ env.locals
 keep : Keep hF h
 old : Old O h
section
variable {prog : Program} {w : World} {sc : Names} {hF : Heap} {O : Addr → Prop} {h h' : Heap} {env : Env} {ρ : Vars}
noncomputable def Sl (env : Env) (a : Addr) : Prop:=a = env.locals ∨ ∃ x,env.cells.lookup x = some a
theorem FrI.go {O' : Addr → Prop} (F : FrI prog w sc hF O h env ρ) (sl : ∀ a o,Sl env a → h.get? a = some o → ∃ o',h'.get? a = some o' ∧ Alike a o o') (so : ∀ a,Sl env a → O' a) (rep : ∀ x v d,ρ.lookup x = some d → Rep prog w O h v d → Rep prog w O' h' v d)
  (hk : Keep hF h') (ho : Old O' h') : FrI prog w sc hF O' h' env ρ :=
 {F with
  ns:=let ⟨m,hn,hm⟩:=F.ns;⟨m,ns_alike hn fun o => sl _ o (.inl rfl),fun x d e1 e2 => let ⟨v,e3,r⟩:=hm x d e1 e2;⟨v,e3,rep x v d e1 r⟩⟩
  cell:=fun x e => let ⟨c,ov,e1,e2,e3⟩:=F.cell x e;⟨c,ov,e1,isCell_alike e2 fun o => sl _ o (.inr ⟨x,e1⟩),fun d ed => let ⟨v,e4,r⟩:=e3 d ed;⟨v,e4,rep x v d ed r⟩⟩
  allc:=fun x c e => let ⟨ov,e2⟩:=F.allc x c e;⟨ov,isCell_alike e2 fun o => sl _ o (.inr ⟨x,e⟩)⟩
  oloc:=⟨so _ (.inl rfl),F.oloc.2⟩
  ocell:=fun x c e => ⟨so _ (.inr ⟨x,e⟩),(F.ocell x c e).2⟩
  keep:=hk
  old:=ho }
theorem FrI.slot (F : FrI prog w sc hF O h env ρ) {a : Addr} (z : Sl env a) : O a:=z.elim (fun e => e ▸ F.oloc.1) fun ⟨x,e⟩ => (F.ocell x a e).1
theorem FrI.slotEx (F : FrI prog w sc hF O h env ρ) {a : Addr} (z : Sl env a) : ∃ o,h.get? a = some o:=F.old a (F.slot z)
theorem FrI.keeps (F : FrI prog w sc hF O h env ρ) (k : Keep h h') : FrI prog w sc hF O h' env ρ :=
 F.go (fun a o ζ e => k a o e) (fun ζ z => F.slot z) (fun ζ ζ ζ ζ r => r.keep k) (F.keep.trans k) (F.old.keep k)
theorem FrI.vars {ρ' : Vars} (F : FrI prog w sc hF O h env ρ) (hv : ∀ x d,ρ'.lookup x = some d → ρ.lookup x = some d) : FrI prog w sc hF O h env ρ' :=
 {F with
  ns:=let ⟨m,hn,hm⟩:=F.ns;⟨m,hn,fun x d e1 e2 => hm x d (hv x d e1) e2⟩
  cell:=fun x e => let ⟨c,ov,e1,e2,e3⟩:=F.cell x e;⟨c,ov,e1,e2,fun d ed => e3 d (hv x d ed)⟩ }
theorem FrI.other {O' : Addr → Prop} (F : FrI prog w sc hF O h env ρ) (hO : ∀ a,O a → O' a) (hr : ∀ v d,(∃ x,ρ.lookup x = some d) → Rep prog w O h v d → Rep prog w O' h v d) (ho : Old O' h) : FrI prog w sc hF O' h env ρ :=
 F.go (fun ζ o ζ e => ⟨o,e,.refl _⟩) (fun ζ z => hO _ (F.slot z)) (fun x v d e r => hr v d ⟨x,e⟩ r) F.keep ho
theorem FrI.changed (F : FrI prog w sc hF O h env ρ) (k : KeepBut O h h') (hl : ∀ a o,Sl env a → h.get? a = some o → ∃ o',h'.get? a = some o' ∧ Alike a o o') (hk : Keep hF h') (ho : Old O h') : FrI prog w sc hF O h' env ρ :=
 F.go hl (fun ζ z => F.slot z) (fun ζ ζ ζ ζ r => r.keepBut k) hk ho
variable {A : Around} {E : Value → Shared → Prop} {s : Shared} {M : Model}
theorem FrI.load (F : FrI prog w sc hF O s.heap env ρ) {x : Str} {d : PyData} (hv : ρ.lookup x = some d) (hx : sc.lookup x = some .local ∨ sc.lookup x = some .cell ∨ sc.lookup x = some .free) {Q : Value → Shared → Prop}
  (h : ∀ v,Rep prog w O s.heap v d → Q v s) : wpAny M A (loadName env x) Q E s:=by
 rcases hx with hx | hx
 ·obtain ⟨m,hn,hm⟩:=F.ns
  obtain ⟨v,e,r⟩:=hm x d hv hx
  exact wpAny_loadName_local F.kind (F.loc x hx) hn e (h v r)
 ·obtain ⟨c,ov,e1,e2,e3⟩:=F.cell x hx
  obtain ⟨v,rfl,r⟩:=e3 d hv
  rcases hx with hx | hx
  ·exact wpAny_loadName_cell F.kind (F.cel x hx).1 e1 e2 (h v r)
  ·rcases F.fre x hx with hk | hk
   ·exact wpAny_loadName_cell F.kind hk e1 e2 (h v r)
   ·refine wpAny_loadName_free F.kind hk e1 e2 (h v r) (by
     cases e : x == (Str.ofString "__classdict__") with
     | false => rfl
     | true => rw [beq_iff_eq.mp e,F.ncd] at hx;cases hx)
theorem FrI.name (F : FrI prog w sc hF O s.heap env ρ) {x : Str} {pos : Pos} {d : PyData} (hv : ρ.lookup x = some d) (hx : sc.lookup x = some .local ∨ sc.lookup x = some .cell ∨ sc.lookup x = some .free) {Q : Value → Shared → Prop}
  (h : ∀ v,Rep prog w O s.heap v d → Q v s) : wpAny M A (eval (.Name x pos) env) Q E s :=
 wpAny_Name (F.load hv hx h) (by
  cases e : x == (Str.ofString "__debug__") with
  | false => rfl
  | true => rw [beq_iff_eq.mp e,F.ndb] at hx;rcases hx with hx | hx | hx <;> cases hx)
noncomputable def Own (hF : Heap) (O : Addr → Prop) (a : Addr) : Prop:=O a ∧ hF.get? a = none
theorem Keep.of_own {hF h h' : Heap} {O : Addr → Prop} (k : Keep hF h) (c : KeepBut (Own hF O) h h') : Keep hF h':=fun b o e =>
 let ⟨o',e',al⟩:=k b o e;let ⟨o'',e'',al'⟩:=c b o' (fun n => by rw [n.2] at e;cases e) e';⟨o'',e'',al.trans al'⟩
theorem KeepBut.of_own {hF h h' : Heap} {O : Addr → Prop} (c : KeepBut (Own hF O) h h') : KeepBut O h h':=c.mono fun ζ n => n.1
noncomputable def OwnS (hF : Heap) (O : Addr → Prop) (env : Env) (a : Addr) : Prop:=Own hF O a ∧ Sl env a
theorem KeepBut.of_ownS {hF h h' : Heap} {O : Addr → Prop} {env : Env} (c : KeepBut (OwnS hF O env) h h') : KeepBut (Own hF O) h h':=c.mono fun ζ n => n.1
theorem lookup_cons_eq {α : Type} (x y : Str) (v : α) (l : List (Str × α)) : ((y,v) :: l).lookup x = if x = y then some v else l.lookup x:=by
 rw [List.lookup_cons]
 by_cases h : x = y
 ·subst h;simp
 ·rw [if_neg h]
  have : (x == y) = false:=by simpa using h
  rw [this]
theorem addr_at {v : Value} (_ : FrI prog w sc hF O h env ρ) {x : Str} (q : VarIs h env sc x v) : sc.lookup x = some .local ∨ sc.lookup x = some .cell:=q.elim (fun z => .inl z.1) fun z => .inr z.1
theorem VarIs.load {x : Str} {v : Value} (F : FrI prog w sc hF O s.heap env ρ) (q : VarIs s.heap env sc x v) {Q : Value → Shared → Prop} (hQ : Q v s) : wpAny M A (loadName env x) Q E s:=by
 rcases q with ⟨hx,m,hn,hm⟩ | ⟨hx,c,hc,hcl⟩
 ·exact wpAny_loadName_local F.kind (F.loc x hx) hn hm hQ
 ·exact wpAny_loadName_cell F.kind (F.cel x hx).1 hc hcl hQ
theorem VarIs.name {x : Str} {v : Value} {pos : Pos} (F : FrI prog w sc hF O s.heap env ρ) (q : VarIs s.heap env sc x v) {Q : Value → Shared → Prop} (hQ : Q v s) : wpAny M A (eval (.Name x pos) env) Q E s :=
 wpAny_Name (q.load F hQ) (Bool.eq_false_iff.mpr fun e => by
  have hx:=addr_at F q
  rw [beq_iff_eq.mp e,F.ndb] at hx
  exact hx.elim nofun nofun)
set_option tactic.hygienic true in
theorem FrI.add (F : FrI prog w sc hF O h env ρ) {x : Str} {v : Value} {d : PyData} (q : VarIs h env sc x v) (r : Rep prog w O h v d) : FrI prog w sc hF O h env ((x,d) :: ρ) :=
 {F with
  ns:=by
   obtain ⟨m,hn,hm⟩:=F.ns
   refine ⟨m,hn,fun y e e1 e2 => ?_⟩
   rw [lookup_cons_eq] at e1
   split at e1
   ·rename_i hy
    subst hy
    obtain rfl:=Option.some.inj e1
    rcases q with ⟨_,m₂,hn₂,hm₂⟩ | ⟨e,_⟩
    ·exact ⟨v,(hn.agree hn₂ y).trans hm₂,r⟩
    ·cases e.symm.trans e2
   ·exact hm y e e1 e2
  cell:=fun y e => by
   obtain ⟨c,ov,e1,e2,e3⟩:=F.cell y e
   refine ⟨c,ov,e1,e2,fun d' ed => ?_⟩
   rw [lookup_cons_eq] at ed
   split at ed
   ·rename_i hy
    subst hy
    obtain rfl:=Option.some.inj ed
    rcases q with ⟨f,_⟩ | ⟨_,c₂,hc,o,ho,hd⟩
    ·rw [f] at e;exact e.elim nofun nofun
    ·cases hc.symm.trans e1
     obtain ⟨o₂,ho₂,hd₂⟩:=e2
     cases ho.symm.trans ho₂
     cases hd.symm.trans hd₂
     exact ⟨v,rfl,r⟩
   ·exact e3 d' ed }
theorem FrI.storeV (F : FrI prog w sc hF O s.heap env ρ) {x : Str} {v : Value} (hx : sc.lookup x = some .local ∨ sc.lookup x = some .cell) (hρ : ρ.lookup x = none) {Q : Unit → Shared → Prop}
  (hq : ∀ h' tk,FrI prog w sc hF O h' env ρ → KeepBut (OwnS hF O env) s.heap h' → Kept env sc [x] s.heap h' → VarIs h' env sc x v → Q () { s with heap:=h',toks:=tk }) : wpAny M A (storeName env x v) Q E s:=by
 have ne : ∀ {y d},ρ.lookup y = some d → y ≠ x:=fun e q => by rw [q,hρ] at e;cases e
 have key : ∀ (b : Addr) h',Sl env b → hF.get? b = none → Heap.SameBut b s.heap h' → (∃ o,h'.get? b = some o) → KeepBut (OwnS hF O env) s.heap h' ∧ KeepBut O s.heap h' ∧ Keep hF h' ∧ Old O h':=fun b h' z n sb ex => by
  have kS : KeepBut (OwnS hF O env) s.heap h':=KeepBut.of_sameBut sb ⟨⟨F.slot z,n⟩,z⟩
  refine ⟨kS,kS.of_ownS.of_own,F.keep.of_own kS.of_ownS,fun a q => ?_⟩
  by_cases ha : a = b
  ·exact ha ▸ ex
  ·obtain ⟨o,eo⟩:=F.old a q;exact ⟨o,sb.extBut a o ha eo⟩
 rcases hx with hx | hx
 ·obtain ⟨m,hn,hm⟩:=F.ns
  rw [storeName_local (F.loc x hx) (by rw [F.kind];rfl)]
  refine nsSet_rule hn fun h' hn' hs hcl => ?_
  obtain ⟨kS,kO,kF,ho⟩:=key _ h' (.inl rfl) F.oloc.2 hs (let ⟨o',_,_,ho',_⟩:=hn';⟨o',ho'⟩)
  refine hq h' _ { F with
   ns:=⟨_,hn',fun y e e1 e2 => let ⟨u,e3,r'⟩:=hm y e e1 e2;⟨u,(if_neg (ne e1)).trans e3,r'.keepBut kO⟩⟩
   cell:=fun y e => let ⟨c,ov,e1,e2,e3⟩:=F.cell y e;⟨c,ov,e1,e2.sameBut hs (F.ocell y c e1).2,fun d' ed => let ⟨u,e4,r'⟩:=e3 d' ed;⟨u,e4,r'.keepBut kO⟩⟩
   allc:=fun y c e => let ⟨ov,e2⟩:=F.allc y c e;⟨ov,e2.sameBut hs (F.ocell y c e).2⟩
   keep:=kF
   old:=ho } kS ⟨hcl,fun y u ny q => q.imp (fun ⟨e,m₂,hn₂,hm₂⟩ => ⟨e,_,hn',(if_neg fun q : y = x => ny (List.mem_singleton.mpr q)).trans ((hn.agree hn₂ y).trans hm₂)⟩) fun ⟨e,c,hc,hcl⟩ => ⟨e,c,hc,hcl.sameBut hs (F.ocell y c hc).2⟩⟩ (.inl ⟨hx,_,hn',if_pos rfl⟩)
 ·obtain ⟨hk,c,hc,hcF⟩:=F.cel x hx
  obtain ⟨_,ov,e1,e2,_⟩:=F.cell x (.inl hx)
  cases hc.symm.trans e1
  refine wpAny_storeName_cell F.kind hk hc e2 fun h' hc' hs => ?_
  obtain ⟨kS,kO,kF,ho⟩:=key c h' (.inr ⟨x,hc⟩) hcF hs (let ⟨o',ho',_⟩:=hc';⟨o',ho'⟩)
  have nl:=Ne.symm (F.ocell x c hc).2
  have off : ∀ {y c₂},env.cells.lookup y = some c₂ → y ≠ x → c₂ ≠ c:=fun f hy z => hy (F.inj _ x c (z ▸ f) hc)
  refine hq h' _ { F with
   ns:=let ⟨m,hn,hm⟩:=F.ns;⟨m,hn.sameBut hs nl,fun y d' e4 e5 => let ⟨u,e6,r'⟩:=hm y d' e4 e5;⟨u,e6,r'.keepBut kO⟩⟩
   cell:=fun y e => ?_
   allc:=fun y c₂ e => ?_
   keep:=kF
   old:=ho } kS ⟨(let ⟨m,hn,_⟩:=F.ns;.of_keep hn fun o e => ⟨o,hs.extBut _ o nl e,.refl _⟩),fun y u ny q => q.imp (fun ⟨e,m₂,hn₂,hm₂⟩ => ⟨e,m₂,hn₂.sameBut hs nl,hm₂⟩) fun ⟨e,c₂,hc₂,hcl⟩ => ⟨e,c₂,hc₂,hcl.sameBut hs (off hc₂ fun z => ny (List.mem_singleton.mpr z))⟩⟩ (.inr ⟨hx,c,hc,hc'⟩)
  ·by_cases hy : y = x
   ·subst hy
    exact ⟨c,some v,hc,hc',fun d' ed => absurd rfl (ne ed)⟩
   ·obtain ⟨c₂,ov₂,f1,f2,f3⟩:=F.cell y e
    exact ⟨c₂,ov₂,f1,f2.sameBut hs (off f1 hy),fun d' ed => let ⟨u,f4,r'⟩:=f3 d' ed;⟨u,f4,r'.keepBut kO⟩⟩
  ·by_cases q : c₂ = c
   ·subst q;exact ⟨_,hc'⟩
   ·obtain ⟨ov,e2⟩:=F.allc y c₂ e;exact ⟨ov,e2.sameBut hs q⟩
set_option tactic.hygienic true in
theorem lookup_without (x y : Str) : ∀ ρ : Vars,(ρ.filter fun p => !decide (p.1 = x)).lookup y = if y = x then none else ρ.lookup y:=fun ρ => by
 induction ρ with
 | nil => exact (ite_self _).symm
 | cons p ρ ih =>
  rw [List.filter_cons]
  by_cases h : p.1 = x
  ·rw [if_neg (by rw [decide_eq_true h];exact Bool.false_ne_true),ih]
   split
   ·rfl
   ·rename_i hy
    rw [lookup_cons_eq,if_neg fun e => hy (e.trans h)]
  ·rw [if_pos (by rw [decide_eq_false h];rfl),lookup_cons_eq,lookup_cons_eq,ih]
   split
   ·rename_i hy;rw [if_neg fun e => h (hy.symm.trans e)]
   ·rfl
set_option tactic.hygienic true in
theorem FrI.store (F : FrI prog w sc hF O s.heap env ρ) {x : Str} {v : Value} {d : PyData} (hx : sc.lookup x = some .local ∨ sc.lookup x = some .cell) (r : Rep prog w O s.heap v d) {Q : Unit → Shared → Prop}
  (h : ∀ h' tk,FrI prog w sc hF O h' env ((x,d) :: ρ) → KeepBut (OwnS hF O env) s.heap h' → Kept env sc [x] s.heap h' → VarIs h' env sc x v → Q () { s with heap:=h',toks:=tk }) : wpAny M A (storeName env x v) Q E s :=
 (F.vars (ρ':=ρ.filter fun p => !decide (p.1 = x)) fun y d e => by
  rw [lookup_without] at e
  split at e
  ·cases e
  ·exact e).storeV hx ((lookup_without x x ρ).trans (if_pos rfl)) fun h' tk G k kp vi => h h' tk ((G.add vi (r.keepBut k.of_ownS.of_own)).vars fun y e e' => by
   rw [lookup_cons_eq] at e' ⊢
   split at e'
   ·rename_i hy;rw [if_pos hy];exact e'
   ·rename_i hy;rw [if_neg hy,lookup_without,if_neg hy];exact e') k kp vi
end
end
section
variable [bs : Base]
noncomputable def closGo (env : Env) : Names → List (Str × Addr) → List (Str × Addr)
 | [],acc => acc
 | (n,k) :: r,acc => closGo env r (if k == .free then (n,(env.cells.lookup n).getD 0) :: acc else acc)
theorem closureFor_go {scope : Scope} {env : Env} (h : ∀ x,(x,NameKind.free) ∈ scope.names → (env.cells.lookup x).isSome = true) : closureFor scope env = pure (closGo env scope.names []):=by
 have key : ∀ (f : Str × NameKind → List (Str × Addr) → Sem (ForInStep (List (Str × Addr))))
   (_ : ∀ n k cs,f (n,k) cs = if (k == NameKind.free) = true then (do let a ← cellOf env n;pure (ForInStep.yield ((n,a) :: cs))) else pure (ForInStep.yield cs))
   (l : Names) (acc : List (Str × Addr)),(∀ x,(x,NameKind.free) ∈ l → (env.cells.lookup x).isSome = true) → forIn l acc f = pure (closGo env l acc):=by
  intro f hf l
  induction l with
  | nil => intro acc _;rfl
  | cons x r ih =>
   intro acc hl
   obtain ⟨n,k⟩:=x
   rw [List.forIn_cons,hf]
   have hr : ∀ x,(x,NameKind.free) ∈ r → (env.cells.lookup x).isSome = true:=fun x hx => hl x (List.mem_cons_of_mem _ hx)
   cases hk : k == NameKind.free with
   | false =>
    simp only [Bool.false_eq_true,if_false]
    rw [pure_bind]
    simpa [closGo,hk] using ih acc hr
   | true =>
    have hkk : k = .free:=by simpa using hk
    obtain ⟨c,hc⟩:=Option.isSome_iff_exists.mp (hl n (by rw [hkk];exact List.mem_cons_self))
    have e : cellOf env n = pure c:=by unfold cellOf;rw [hc]
    simp only [if_true,e]
    rw [pure_bind,pure_bind]
    simpa [closGo,hk,hc] using ih ((n,c) :: acc) hr
 simp only [closureFor]
 rw [key _ (fun n k cs => rfl) _ _ h]
 rfl
set_option tactic.hygienic true in
theorem closGo_old {env : Env} : ∀ (l : Names) (acc : List (Str × Addr)),(∀ x,(x,NameKind.free) ∈ l → (env.cells.lookup x).isSome = true) → (∀ x c,acc.lookup x = some c → env.cells.lookup x = some c) →
  ∀ x c,(closGo env l acc).lookup x = some c → env.cells.lookup x = some c
 | [],_,_,ha,x,c,e => ha x c e
 | (n,k) :: r,acc,hl,ha,x,c,e => by
  refine closGo_old r _ (fun y hy => hl y (List.mem_cons_of_mem _ hy)) (fun y d e' => ?_) x c e
  split at e'
  ·rename_i hk
   have hkk : k = .free:=by simpa using hk
   obtain ⟨c',hc'⟩:=Option.isSome_iff_exists.mp (hl n (by rw [hkk];exact List.mem_cons_self))
   rw [lookup_cons_eq] at e'
   split at e'
   ·rename_i hy;subst hy;rw [hc'] at e' ⊢;simpa using e'
   ·exact ha y d e'
  ·exact ha y d e'
theorem closGo_has {env : Env} : ∀ (l : Names) (acc : List (Str × Addr)) (x : Str),((x,NameKind.free) ∈ l ∨ (acc.lookup x).isSome = true) → ((closGo env l acc).lookup x).isSome = true
 | [],_,x,h => h.elim (fun z => nomatch z) id
 | (n,k) :: r,acc,x,h => by
  refine closGo_has r _ x ?_
  rcases h with h | h
  ·rcases cMp h with e | h
   ·cases e;right;simp
   ·exact .inl h
  ·right
   split
   ·rw [lookup_cons_eq];split <;> simp [h]
   ·exact h
theorem cellsFrom_append : ∀ (names : Names) (n : Nat) (acc : List (Str × Addr)),cellsFrom n names acc = cellsFrom n names [] ++ acc
 | [],_,_ => rfl
 | (x,k) :: r,n,acc => by
  unfold cellsFrom
  split
  ·rw [cellsFrom_append r (n + 1) ((x,n) :: acc),cellsFrom_append r (n + 1) [(x,n)],List.append_assoc];rfl
  ·exact cellsFrom_append r n acc
set_option tactic.hygienic true in
theorem cellsFrom_has : ∀ (names : Names) (n : Nat) (acc : List (Str × Addr)) (x : Str),((x,NameKind.cell) ∈ names ∨ (acc.lookup x).isSome = true) → ((cellsFrom n names acc).lookup x).isSome = true
 | [],_,_,x,h => h.elim (fun z => nomatch z) id
 | (y,k) :: r,n,acc,x,h => by
  unfold cellsFrom
  split
  ·refine cellsFrom_has r _ _ x ?_
   rcases h with h | h
   ·rcases cMp h with e | h
    ·cases e;right;simp
    ·exact .inl h
   ·right;rw [lookup_cons_eq];split <;> simp [h]
  ·rename_i hk
   refine cellsFrom_has r _ _ x ?_
   rcases h with h | h
   ·rcases cMp h with e | h
    ·cases e;simp at hk
    ·exact .inl h
   ·exact .inr h
set_option tactic.hygienic true in
theorem cellsFrom_names : ∀ (names : Names) (n : Nat) (acc : List (Str × Addr)) (x : Str) (c : Addr),(x,c) ∈ cellsFrom n names acc → (x,NameKind.cell) ∈ names ∨ (x,c) ∈ acc
 | [],_,_,x,c,h => .inr h
 | (y,k) :: r,n,acc,x,c,h => by
  unfold cellsFrom at h
  split at h
  ·rename_i hk
   have hkk : k = .cell:=by simpa using hk
   rcases cellsFrom_names r _ _ x c h with h | h
   ·exact .inl (List.mem_cons_of_mem _ h)
   ·rcases cMp h with e | h
    ·cases e;left;rw [hkk];exact List.mem_cons_self
    ·exact .inr h
  ·rcases cellsFrom_names r _ _ x c h with h | h
   ·exact .inl (List.mem_cons_of_mem _ h)
   ·exact .inr h
theorem lookup_mem {α : Type} {l : List (Str × α)} {x : Str} {c : α} (h : l.lookup x = some c) : (x,c) ∈ l:=mem_of_lookup h
noncomputable def Once (sc : Names) : Prop:=∀ x k,(x,k) ∈ sc → sc.lookup x = some k
theorem lookup_relabel {env : Env} {f : Str × NameKind → Str × NameKind} (hf : f = fun (n,k) => if (k == NameKind.free && env.scope.kind == .function && env.kindOf n == some .cell) then (n,NameKind.cell) else (n,k)) :
  ∀ {names : Names} {x : Str} {k : NameKind},names.lookup x = some k → (names.map f).lookup x = some (if (k == NameKind.free && env.scope.kind == .function && env.kindOf x == some .cell) then NameKind.cell else k)
 | [],_,_,h => by simp at h
 | (n,k') :: r,x,k,h => by
  have ih:=@lookup_relabel env f hf r x k
  subst hf
  rw [lookup_cons_eq] at h
  rw [List.map_cons]
  dsimp only
  by_cases hx : x = n
  ·rw [if_pos hx] at h;obtain rfl:=Option.some.inj h;subst hx
   split <;> simp
  ·rw [if_neg hx] at h
   have:=ih h
   split <;> (rw [lookup_cons_eq,if_neg hx];exact this)
theorem lookup_filter {ρ : Vars} (p : Str → Bool) : ∀ x d,(ρ.filter fun q => p q.1).lookup x = some d → p x = true ∧ ρ.lookup x = some d:=by
 induction ρ with
 | nil => intro x d e;simp at e
 | cons q r ih =>
  intro x d e
  obtain ⟨y,v⟩:=q
  rw [List.filter_cons] at e
  rw [lookup_cons_eq]
  by_cases hx : x = y
  ·subst hx
   cases hp : p x with
   | true => simp only [hp,if_true] at e;rw [lookup_cons_eq,if_pos rfl] at e;rw [if_pos rfl];exact ⟨rfl,e⟩
   | false =>
    simp only [hp,Bool.false_eq_true,if_false] at e
    have:=(ih x d e).1
    rw [hp] at this;cases this
  ·rw [if_neg hx]
   refine ih x d ?_
   dsimp only at e
   split at e
   ·rw [lookup_cons_eq,if_neg hx] at e;exact e
   ·exact e
section
variable {prog : Program} {w : World} {sc : Names} {hF : Heap} {O : Addr → Prop} {env : Env} {ρ : Vars} {A : Around} {E : Value → Shared → Prop} {s : Shared} {M : Model}
theorem compEnv_rule {scope : Scope} (F : FrI prog w sc hF O s.heap env ρ) (hk : scope.kind = .function) (honce : Once scope.names)
  (hfree : ∀ x,scope.names.lookup x = some .free → sc.lookup x = some .cell ∨ sc.lookup x = some .free)
  (hn1 : scope.names.lookup (Str.ofString "__classdict__") = none) (hn2 : scope.names.lookup (Str.ofString "__debug__") = none)
  {Q : Env → Shared → Prop}
  (h : ∀ (cenv : Env) (h' : Heap) (O' : Addr → Prop),Keep s.heap h' → (∀ a,O' a → O a ∨ s.heap.get? a = none) → (∀ a,O a → O' a) →
   FrI prog w scope.names s.heap O' h' { cenv with scope:=relabel scope env } (ρ.filter fun p => scope.names.lookup p.1 == some .free) →
   (∀ a,Sl { cenv with scope:=relabel scope env } a → s.heap.get? a = none ∨ Sl env a) → Q cenv { s with heap:=h' }) :
  wpAny M A (newFunctionEnv scope env.globals (closGo env scope.names []) [] env.qual none .none (some env)) Q E s:=by
 have hfc : ∀ x,(x,NameKind.free) ∈ scope.names → (env.cells.lookup x).isSome = true:=fun x hx => by
  have e:=hfree x (honce x _ hx)
  obtain ⟨c,ov,e1,_⟩:=F.cell x e
  rw [e1];rfl
 simp only [newFunctionEnv,Option.isSome_some,if_true]
 refine wpAny_bind (wpAny_alloc ?_)
 refine wpAny_bind (wpAny_layCells _ (fun name kind cells => by cases hkc : kind == NameKind.cell <;> simp [hkc]) _ _ _ _ ?_)
 have ok:=cellsFrom_ok scope.names (s.heap.push { cls:=.type "dict",data:=.dict #[] }) (s.heap.objs.size + 1) [] ⟨fun ζ ζ hm => (nomatch hm),List.Pairwise.nil⟩ (by rw [Heap.size_push];exact Nat.le_refl _)
 rw [Heap.size_push] at ok
 rw [show ({ s with heap:=s.heap.push { cls:=.type "dict",data:=.dict #[] } } : Shared).heap.objs.size = s.heap.objs.size + 1 from Heap.size_push ..]
 rw [cellsFrom_append]
 generalize hcs : cellsFrom (s.heap.objs.size + 1) scope.names [] = cs at ok ⊢
 have kp : Keep s.heap (pushCells (s.heap.push { cls:=.type "dict",data:=.dict #[] }) scope.names):=.of fun b o e => pushCells_keeps _ _ b o (Heap.get?_push_of_some _ e)
 have hL : (pushCells (s.heap.push { cls:=.type "dict",data:=.dict #[] }) scope.names).Ns s.heap.objs.size fun ζ => none:=(Heap.Ns.new s.heap (.type "dict")).keeps (pushCells_keeps _ _)
 generalize hhp : pushCells (s.heap.push { cls:=.type "dict",data:=.dict #[] }) scope.names = hp at ok kp hL ⊢
 simp only [List.forIn_nil]
 refine wpAny_bind (wpAny_pure (wpAny_pure ?_))
 have lkApp : ∀ x c,(cs ++ closGo env scope.names []).lookup x = some c → ((x,c) ∈ cs ∧ scope.names.lookup x = some .cell) ∨ env.cells.lookup x = some c:=fun x c e => by
  rw [List.lookup_append] at e
  cases e1 : cs.lookup x with
  | some c' =>
   rw [e1] at e
   have : c' = c:=by simpa using e
   subst this
   have hm:=lookup_mem e1
   left
   refine ⟨hm,?_⟩
   rw [← hcs] at hm
   rcases cellsFrom_names _ _ _ _ _ hm with h1 | h1
   ·exact honce _ _ h1
   ·cases h1
  | none =>
   rw [e1] at e
   right
   exact closGo_old _ [] hfc (fun x c e => by simp at e) x c (by simpa using e)
 have freshNew : ∀ x c,(x,c) ∈ cs → s.heap.get? c = none:=fun x c hm => by
  have hge:=(ok.empty x c hm).2
  exact Option.eq_none_iff_forall_ne_some.mpr fun o e => absurd (Heap.lt_size e) (Nat.not_lt.mpr (Nat.le_of_succ_le hge))
 refine h _ hp (fun a => O a ∨ a = s.heap.objs.size ∨ ∃ x,(x,a) ∈ cs) kp ?_ (fun a z => .inl z) ?_ (fun a hs => by
  rcases hs with rfl | ⟨x,hx⟩
  ·exact .inl (fresh_size _)
  ·rcases lkApp x a hx with h1 | h1
   ·exact .inl (freshNew x a h1.1)
   ·exact .inr (.inr ⟨x,h1⟩))
 ·rintro a (z | rfl | ⟨x,z⟩)
  ·exact .inl z
  ·exact .inr (fresh_size _)
  ·exact .inr (freshNew x a z)
 have repMore : ∀ v d,Rep prog w O s.heap v d → Rep prog w (fun a => O a ∨ a = s.heap.objs.size ∨ ∃ x,(x,a) ∈ cs) hp v d:=fun v d r =>
  (r.more (O':=fun a => O a ∨ a = s.heap.objs.size ∨ ∃ x,(x,a) ∈ cs) (by
   rintro a (z | rfl | ⟨x,z⟩)
   ·exact .inl z
   ·exact .inr (fresh_size _)
   ·exact .inr (freshNew x a z))).keep kp
 have lkF:=lookup_filter (ρ:=ρ) (fun y => scope.names.lookup y == some NameKind.free)
 have frx : ∀ x,((scope.names.lookup x == some NameKind.free) = true) ↔ scope.names.lookup x = some .free:=fun x => by simp
 have cellNew : ∀ x,scope.names.lookup x = some .cell → ∃ c,(cs ++ closGo env scope.names []).lookup x = some c ∧ (x,c) ∈ cs:=fun x hx => by
  have:=cellsFrom_has scope.names (s.heap.objs.size + 1) [] x (.inl (lookup_mem hx))
  rw [hcs] at this
  obtain ⟨c,hc⟩:=Option.isSome_iff_exists.mp this
  exact ⟨c,by rw [List.lookup_append,hc];rfl,lookup_mem hc⟩
 have cellOldL : ∀ x,scope.names.lookup x = some .free → ∃ c,(cs ++ closGo env scope.names []).lookup x = some c ∧ env.cells.lookup x = some c:=fun x hx => by
  have:=closGo_has (env:=env) scope.names [] x (.inl (lookup_mem hx))
  obtain ⟨c,hc⟩:=Option.isSome_iff_exists.mp this
  have e1 : (cs ++ closGo env scope.names []).lookup x = some c:=by
   rw [List.lookup_append]
   cases e2 : cs.lookup x with
   | none => simpa using hc
   | some c' =>
    have hm:=lookup_mem e2
    rw [← hcs] at hm
    rcases cellsFrom_names _ _ _ _ _ hm with h1 | h1
    ·have:=honce _ _ h1;rw [hx] at this;cases this
    ·cases h1
  refine ⟨c,e1,?_⟩
  rcases lkApp x c e1 with h1 | h1
  ·rw [hx] at h1;cases h1.2
  ·exact h1
 have addrApart : ∀ x c,env.cells.lookup x = some c → ∀ y,(y,c) ∈ cs → False:=fun x c e y hm => by
  obtain ⟨o,ho⟩:=F.old c (F.ocell x c e).1
  rw [freshNew y c hm] at ho;cases ho
 have relab : ∀ x k,scope.names.lookup x = some k → (relabel scope env).names.lookup x = some (if (k == NameKind.free && env.scope.kind == .function && env.kindOf x == some .cell) then NameKind.cell else k):=fun x k e =>
  lookup_relabel (env:=env) (f:=fun (n,k) => if (k == NameKind.free && env.scope.kind == .function && env.kindOf n == some .cell) then (n,NameKind.cell) else (n,k)) rfl e
 refine { kind:=hk,glob:=F.glob,blt:=F.blt,loc:=?_,cel:=?_,fre:=?_,glo:=?_,ns:=⟨_,hL,?_⟩,cell:=?_,allc:=?_,oloc:=⟨.inr (.inl rfl),fresh_size _⟩,ocell:=?_,inj:=?_,keep:=kp,old:=?_,ncd:=hn1,ndb:=hn2 }
 ·intro x hx;exact relab x _ hx
 ·intro x hx
  obtain ⟨c,e1,e2⟩:=cellNew x hx
  exact ⟨relab x _ hx,c,e1,freshNew x c e2⟩
 ·intro x hx
  have:=relab x _ hx
  show (relabel scope env).names.lookup x = _ ∨ (relabel scope env).names.lookup x = _
  rw [this]
  split
  ·exact .inl rfl
  ·exact .inr rfl
 ·intro x hx;exact relab x _ hx
 ·intro x y c e1 e2
  rcases lkApp x c e1 with h1 | h1 <;> rcases lkApp y c e2 with h2 | h2
  ·exact name_of_addr ok.apart h1.1 h2.1
  ·exact (addrApart y c h2 x h1.1).elim
  ·exact (addrApart x c h1 y h2.1).elim
  ·exact F.inj x y c h1 h2
 ·intro x d e1 e2
  have:=(lkF x d e1).1
  rw [e2] at this;cases this
 ·rintro x (hx | hx)
  ·obtain ⟨c,e1,e2⟩:=cellNew x hx
   refine ⟨c,none,e1,(ok.empty x c e2).1,fun d ed => ?_⟩
   have:=(lkF x d ed).1
   rw [hx] at this;cases this
  ·obtain ⟨c,e1,e2⟩:=cellOldL x hx
   obtain ⟨c',ov,f1,f2,f3⟩:=F.cell x (hfree x hx)
   rw [e2] at f1;obtain rfl:=Option.some.inj f1
   refine ⟨c,ov,e1,isCell_alike f2 fun o e => kp c o e,fun d ed => ?_⟩
   obtain ⟨v,f4,r⟩:=f3 d (lkF x d ed).2
   exact ⟨v,f4,repMore v d r⟩
 ·intro x c e
  rcases lkApp x c e with h1 | h1
  ·exact ⟨none,(ok.empty x c h1.1).1⟩
  ·obtain ⟨ov,f2⟩:=F.allc x c h1;exact ⟨ov,isCell_alike f2 fun o e => kp c o e⟩
 ·intro x c e
  rcases lkApp x c e with h1 | h1
  ·refine ⟨.inr (.inr ⟨x,h1.1⟩),?_⟩
   exact Nat.ne_of_gt (Nat.lt_of_succ_le (ok.empty x c h1.1).2)
  ·refine ⟨.inl (F.ocell x c h1).1,?_⟩
   obtain ⟨o,ho⟩:=F.old c (F.ocell x c h1).1
   exact Nat.ne_of_lt (Heap.lt_size ho)
 ·rintro a (z | rfl | ⟨x,z⟩)
  ·exact F.old.keep kp a z
  ·obtain ⟨o,_,_,ho,_⟩:=hL;exact ⟨o,ho⟩
  ·obtain ⟨o,ho,_⟩:=(ok.empty x a z).1;exact ⟨o,ho⟩
end
end
section
variable [bs : Base]
section
variable {prog : Program} {w : World} {A : Around} {R : Result → Shared → Prop} {s : Shared} {env : Env}
theorem forLoop_step {target : Expr} {it : Value} {body orelse : List Stmt} 
  (h : wpAny (model prog w) A (pyNext it) (fun r s₁ => match r with
   | none => wpAny (model prog w) A (execs orelse env) (fun f s₃ => R (.ok f) s₃) (notedBy (model prog w) A env fun e s' => R (.error e) s') s₁
   | some v => wpAny (model prog w) A (letOwnedTupleGo target it v) (fun ζ s₂ => wpAny (model prog w) A (assign target env v) (fun ζ s₃ => wpAny (model prog w) A (execs body env) (fun f s₄ => match f with
     | .next | .cont => codeAny (model prog w) A (.forLoop target it body orelse env) R s₄
     | .brk => R (.ok .next) s₄
     | .ret v => R (.ok (.ret v)) s₄) (notedBy (model prog w) A env fun e s' => R (.error e) s') s₃) (notedBy (model prog w) A env fun e s' => R (.error e) s') s₂)
     (notedBy (model prog w) A env fun e s' => R (.error e) s') s₁) (notedBy (model prog w) A env fun e s' => R (.error e) s') s) :
  codeAny (model prog w) A (.forLoop target it body orelse env) R s:=by
 refine codeAny_of_tree ?_
 show wpAny _ _ ((forTurn target it body orelse env).onRaise (fun x => do noteFrame x env;theTreesLotGoes x)) _ _ s
 refine wpAny_noted ?_
 simp only [forTurn]
 refine wpAny_bind (wpAny_standAt (wpAny_bind (wpAny_onRaise (wpAny_mono h (fun r s₁ h₁ => ?_) fun ζ ζ h' => wpAny_standAt h'))))
 cases r with
 | none => exact wpAny_pure ⟨rfl,codeAny_block h₁⟩
 | some v =>
  refine wpAny_bind (wpAny_mono h₁ (fun ζ s₂ h₂ => wpAny_bind (wpAny_mono h₂ (fun ζ s₃ h₃ => wpAny_bind (wpAny_mono h₃ (fun f s₄ h₄ => ?_) fun ζ ζ h' => h')) fun ζ ζ h' => h')) fun ζ ζ h' => h')
  cases f with
  | next => exact wpAny_pure ⟨rfl,h₄⟩
  | cont => exact wpAny_pure ⟨rfl,h₄⟩
  | brk => exact wpAny_pure h₄
  | ret v => exact wpAny_pure h₄
theorem whileLoop_step {test : Expr} {body orelse : List Stmt}
  (h : wpAny (model prog w) A (isTrue test env (eval test env)) (fun b s₂ =>
    if b then wpAny (model prog w) A (execs body env) (fun f s₃ => match f with
      | .next | .cont => codeAny (model prog w) A (.whileLoop test body orelse env) R s₃
      | .brk => R (.ok .next) s₃
      | .ret v => R (.ok (.ret v)) s₃) (notedBy (model prog w) A env fun e s' => R (.error e) s') s₂
    else wpAny (model prog w) A (execs orelse env) (fun f s₃ => R (.ok f) s₃) (notedBy (model prog w) A env fun e s' => R (.error e) s') s₂)
    (notedBy (model prog w) A env fun e s' => R (.error e) s') s) : codeAny (model prog w) A (.whileLoop test body orelse env) R s:=by
 refine codeAny_of_tree ?_
 show wpAny _ _ ((whileTurn test body orelse env).onRaise (fun x => do noteFrame x env;theTreesLotGoes x)) _ _ s
 refine wpAny_noted ?_
 simp only [whileTurn]
 refine wpAny_bind (wpAny_mono h (fun b s₂ h₂ => ?_) fun ζ ζ h' => h')
 cases b with
 | false =>
  simp only [Bool.false_eq_true,if_false] at h₂ ⊢
  exact wpAny_bind (wpAny_mono h₂ (fun f s₃ h₃ => wpAny_pure h₃) fun ζ ζ h' => h')
 | true =>
  simp only [if_true] at h₂ ⊢
  refine wpAny_bind (wpAny_mono h₂ (fun f s₃ h₃ => ?_) fun ζ ζ h' => h')
  cases f with
  | next => exact wpAny_pure ⟨rfl,h₃⟩
  | cont => exact wpAny_pure ⟨rfl,h₃⟩
  | brk => exact wpAny_pure h₃
  | ret v => exact wpAny_pure h₃
noncomputable def testsOf (ifs : List Expr) (env : Env) : Sem Bool:=forIn ifs true fun c r => if r = true then do let ok ← isTrue c env (eval c env);pure (ForInStep.yield ok) else pure (ForInStep.yield r)
noncomputable def emitOf (elt : Expr) (acc : Value) (env : Env) : Sem Unit:=eval elt env >>= fun x => call (.builtin "list.append") [acc,x] >>= fun ζ => pure ()
noncomputable def emitDict (k v : Expr) (d : Addr) (env : Env) : Sem Unit:=do
 let kv ← eval k env
 let vv ← holding [kv] (eval v env)
 standAt { k.pos with endLine:=v.pos.endLine,endCol:=v.pos.endCol }
 holding [kv,vv] (dictSet d kv vv)
noncomputable def afterTests (e : Expr) (gens : List Comprehension) (emit : Sem Unit) (depth : Nat) (it acc : Value) (env : Env) (ok : Bool) : Sem Fin :=
 if ok = true then (match gens[depth + 1]? with
  | some g' => (eval g'.iter env >>= fun x => standAt g'.iter.pos >>= fun ζ => (if (g'.is_async != 0) = true then foldedIterable g'.iter x else foldedSetIterable g'.iter env x) >>= fun x =>
    (holding [x] (if (g'.is_async != 0) = true then asyncIter x else pyIter x)) >>= fun it' => runOwn (.compStart e (depth + 1) it' acc env) env >>= fun ζ => again (.compLoop e depth it acc env))
  | none => emit >>= fun ζ => again (.compLoop e depth it acc env))
 else again (.compLoop e depth it acc env)
noncomputable def turnOf (e : Expr) (gens : List Comprehension) (emit : Sem Unit) (g : Comprehension) (depth : Nat) (it acc : Value) (env : Env) : Sem Fin :=
 standAt g.iter.pos >>= fun ζ => pyNext it >>= fun r => match r with
   | none => pure (.done .next)
   | some v => letOwnedTupleGo g.target it v >>= fun ζ => assign g.target env v >>= fun ζ => testsOf g.ifs env >>= fun ok => afterTests e gens emit depth it acc env ok
theorem congr_next {α β : Type} {m : Sem α} {f g : α → Sem β} (h : ∀ a,f a = g a) : m >>= f = m >>= g:=congrArg (m >>= ·) (funext h)
theorem compTurn_list {elt : Expr} {gens : List Comprehension} {scope : Scope} {pos : Pos} {depth : Nat} {it acc : Value} {g : Comprehension} (hg : gens[depth]? = some g) (ha : g.is_async = 0) :
  compTurn (.ListComp elt gens scope pos) depth it acc env = turnOf (.ListComp elt gens scope pos) gens (emitOf elt acc env) g depth it acc env:=by
 unfold compTurn
 simp only [hg,ha]
 refine congr_next fun ζ => congr_next fun r => ?_
 cases r with
 | none => rfl
 | some v =>
  refine congr_next fun ζ => congr_next fun ζ => congr_next fun ok => ?_
  cases ok with
  | false => rfl
  | true =>
   unfold afterTests
   cases gens[depth + 1]? with
   | none => rfl
   | some g' => exact congr_next fun x => congr_next fun ζ => by split <;> rfl
theorem compTurn_dict {k v : Expr} {gens : List Comprehension} {scope : Scope} {pos : Pos} {depth : Nat} {it : Value} {d : Addr} {g : Comprehension} (hg : gens[depth]? = some g) (ha : g.is_async = 0) :
  compTurn (.DictComp k v gens scope pos) depth it (.ref d) env = turnOf (.DictComp k v gens scope pos) gens (emitDict k v d env) g depth it (.ref d) env:=by
 unfold compTurn
 simp only [hg,ha]
 refine congr_next fun ζ => congr_next fun r => ?_
 cases r with
 | none => rfl
 | some v =>
  refine congr_next fun ζ => congr_next fun ζ => congr_next fun ok => ?_
  cases ok with
  | false => rfl
  | true =>
   unfold afterTests
   cases gens[depth + 1]? with
   | none => rfl
   | some g' => exact congr_next fun x => congr_next fun ζ => by split <;> rfl
inductive CompShape (env : Env) (acc : Value) : Expr → List Comprehension → Sem Unit → Prop
 | list (elt gens scope pos) : CompShape env acc (.ListComp elt gens scope pos) gens (emitOf elt acc env)
 | dict (k v gens scope pos d) (h : acc = .ref d) : CompShape env acc (.DictComp k v gens scope pos) gens (emitDict k v d env)
theorem CompShape.turn {e : Expr} {gens : List Comprehension} {emit : Sem Unit} {depth : Nat} {it acc : Value} {g : Comprehension} (c : CompShape env acc e gens emit) (hg : gens[depth]? = some g) (ha : g.is_async = 0) :
  compTurn e depth it acc env = turnOf e gens emit g depth it acc env:=by
 cases c with
 | list => exact compTurn_list hg ha
 | dict _ _ _ _ _ _ h => subst h;exact compTurn_dict hg ha
theorem CompShape.facts {e : Expr} {gens : List Comprehension} {emit : Sem Unit} {acc : Value} (c : CompShape env acc e gens emit) (depth : Nat) (it : Value) :
  (model prog w).den (.compLoop e depth it acc env) = (compTurn e depth it acc env).onRaise (fun x => do noteFrame x env;theTreesLotGoes x) ∧ A.under (.compLoop e depth it acc env) = A ∧ (Code.compLoop e depth it acc env).quiet = true ∧
   (model prog w).den (.compStart e depth it acc env) = (compStart e depth it acc env).onRaise (fun x => do noteFrame x env;standAt theWindowsPlace) ∧ A.under (.compStart e depth it acc env) = A ∧ clausesOf e = gens ∧ (Code.compStart e depth it acc env).quiet = true:=by
 cases c <;> exact ⟨rfl,rfl,rfl,rfl,rfl,rfl,rfl⟩
theorem compLoop_step {e : Expr} {gens : List Comprehension} {emit : Sem Unit} {depth : Nat} {it acc : Value} {g : Comprehension} (c : CompShape env acc e gens emit) (hg : gens[depth]? = some g) (ha : g.is_async = 0)
  (hs' : ∀ g' ∈ gens,g'.is_async = 0 ∧ ∀ x,foldedSetIterable g'.iter env x = pure x)
  (h : wpAny (model prog w) A (pyNext it) (fun r s₁ => match r with
   | none => R (.ok .next) s₁
   | some v => wpAny (model prog w) A (letOwnedTupleGo g.target it v) (fun ζ s₂ => wpAny (model prog w) A (assign g.target env v) (fun ζ s₃ => wpAny (model prog w) A (testsOf g.ifs env) (fun ok s₄ =>
     if ok = true then (match gens[depth + 1]? with
      | some g' => wpAny (model prog w) A (eval g'.iter env) (fun x s₅ => wpAny (model prog w) A (pyIter x) (fun it' s₆ =>
        codeAny (model prog w) A (.compStart e (depth + 1) it' acc env) (fun r s₇ => match r with | .ok _ => codeAny (model prog w) A (.compLoop e depth it acc env) R s₇ | .error _ => False) s₆)
        (fun ζ ζ => False) s₅) (fun ζ ζ => False) s₄
      | none => wpAny (model prog w) A emit (fun ζ s₅ => codeAny (model prog w) A (.compLoop e depth it acc env) R s₅) (fun ζ ζ => False) s₄)
     else codeAny (model prog w) A (.compLoop e depth it acc env) R s₄) (fun ζ ζ => False) s₃) (fun ζ ζ => False) s₂)
     (fun ζ ζ => False) s₁) (fun ζ ζ => False) s) :
  codeAny (model prog w) A (.compLoop e depth it acc env) R s:=by
 obtain ⟨f1,f2,f3,-⟩:=c.facts (prog:=prog) (w:=w) (A:=A) depth it
 refine codeAny_of_tree ?_
 rw [f1,f2,c.turn hg ha]
 refine wpAny_onRaise (wpAny_mono (E:=fun ζ ζ => False) (wpAny_bind (wpAny_standAt (wpAny_bind (wpAny_mono h (fun r s₁ h₁ => ?_) fun ζ ζ f => f)))) (fun ζ ζ q => q) fun ζ ζ f => f.elim)
 cases r with
 | none => exact wpAny_pure h₁
 | some v =>
  refine wpAny_bind (wpAny_mono h₁ (fun ζ s₂ h₂ => wpAny_bind (wpAny_mono h₂ (fun ζ s₃ h₃ => wpAny_bind (wpAny_mono h₃ (fun ok s₄ h₄ => ?_) fun ζ ζ f => f)) fun ζ ζ f => f)) fun ζ ζ f => f)
  clear h h₁ h₂ h₃
  cases ok with
  | false => exact wpAny_pure ⟨f3,h₄⟩
  | true =>
   unfold afterTests
   revert h₄
   cases hg' : gens[depth + 1]? with
   | none => exact fun h₄ => wpAny_bind (wpAny_mono h₄ (fun ζ s₅ h₅ => wpAny_pure ⟨f3,h₅⟩) fun ζ ζ f => f)
   | some g' =>
    have hm:=hs' g' (List.mem_of_getElem? hg')
    have hn : ¬ ((g'.is_async != 0) = true):=by rw [hm.1];exact Bool.false_ne_true
    refine fun h₄ => wpAny_bind (wpAny_mono h₄ (fun x s₅ h₅ => wpAny_bind (wpAny_standAt (wpAny_bind (wpAny_of_eq ((if_neg hn).trans (hm.2 x)) (wpAny_bind (wpAny_holding ?_)))))) fun ζ ζ f => f)
    rw [if_neg hn]
    refine wpAny_mono h₅ (fun it' s₆ h₆ => wpAny_bind (wpAny_runOwn (h:=none) (codeAny_mono h₆ fun r s₇ h₇ => ?_))) fun ζ ζ f => f
    cases r with
    | ok f => exact wpAny_pure ⟨f3,h₇⟩
    | error _ => exact h₇.elim
theorem compStart_step {e : Expr} {gens : List Comprehension} {emit : Sem Unit} {depth : Nat} {it acc : Value} {g : Comprehension} (c : CompShape env acc e gens emit) (hg : gens[depth]? = some g) (ha : g.is_async = 0)
  (h0 : codeAny (model prog w) A (.compLoop e depth it acc env) R s)
  (h : wpAny (model prog w) A (pyIter it) (fun it' s' => codeAny (model prog w) A (.compLoop e depth it' acc env) R s') (fun ζ ζ => False) s) :
  codeAny (model prog w) A (.compStart e depth it acc env) R s:=by
 obtain ⟨-,-,-,f1,f2,f3,-⟩:=c.facts (prog:=prog) (w:=w) (A:=A) depth it
 have hq : ∀ it',(Code.compLoop e depth it' acc env).quiet = true:=fun it' => (c.facts (prog:=prog) (w:=w) (A:=A) depth it').2.2.1
 refine codeAny_of_tree ?_
 rw [f1,f2]
 refine wpAny_onRaise (wpAny_mono (E:=fun ζ ζ => False) ?_ (fun ζ ζ q => q) fun ζ ζ f => f.elim)
 unfold compStart
 simp only [f3,hg,Option.elim_some,ha]
 refine wpAny_bind (wpAny_askSetting (wpAny_ite ?_))
 split
 ·exact wpAny_bind (wpAny_pure (wpAny_pure ⟨hq _,h0⟩))
 ·exact wpAny_bind (wpAny_rule (wpAny_bind (wpAny_standAt (wpAny_bind (wpAny_mono h (fun it' s' h' => wpAny_pure ⟨hq _,h'⟩) fun ζ ζ x => x)))))
end
end
section
variable [bs : Base]
structure Grow (O : Addr → Prop) (h₀ : Heap) (J : Addr → Prop) (O' : Addr → Prop) : Prop where
 sub : ∀ a,O a → O' a
 self : ∀ a,J a → O' a
 new : ∀ a,O' a → O a ∨ J a ∨ h₀.get? a = none
noncomputable def turnW (prog : Program) (w : World) (A : Around) (t : Expr) (I : Addr) (N : Shared → Prop) (Q : Value → Shared → Prop) (E E' : Value → Shared → Prop) (s : Shared) : Prop :=
 wpAny (model prog w) A (pyNext (.ref I)) (fun r s₁ => match r with
  | none => N s₁
  | some v => wpAny (model prog w) A (letOwnedTupleGo t (.ref I) v) (fun ζ s₂ => Q v s₂) E' s₁) E s
structure It (prog : Program) (w : World) (A : Around) (t : Expr) (O : Addr → Prop) (h₀ : Heap) (I : Addr) (J : Addr → Prop) (ds : List PyData) (St : Nat → Heap → Prop) : Prop where
 ex : ∀ i h,St i h → ∀ b,J b → ∃ o,h.get? b = some o ∧ ¬ Tree o
 frame : ∀ i h h',St i h → (∀ b o,o.cls ≠ .type "frame" → (J b ∨ (¬ O b ∧ ∃ o',h₀.get? b = some o')) → h.get? b = some o → h'.get? b = some o) → St i h'
 turn : ∀ i d (s : Shared) (N : Shared → Prop) (Q : Value → Shared → Prop) (E E' : Value → Shared → Prop) (O' : Addr → Prop),Grow O h₀ J O' → Old O' s.heap → KeepBut O' h₀ s.heap → ds[i]? = some d → St i s.heap →
  (∀ v h' tk,Rep prog w O' h' v d → St (i + 1) h' → KeepBut J s.heap h' → Q v { s with heap:=h',toks:=tk }) → turnW prog w A t I N Q E E' s
 done : ∀ (s : Shared) (Q : Option Value → Shared → Prop) (E : Value → Shared → Prop),St ds.length s.heap → (∀ h' tk,KeepBut J s.heap h' → Q none { s with heap:=h',toks:=tk }) → wpAny (model prog w) A (pyNext (.ref I)) Q E s
 self : ∀ i (s : Shared) (Q : Value → Shared → Prop) (E : Value → Shared → Prop),St i s.heap → Q (.ref I) s → wpAny (model prog w) A (pyIter (.ref I)) Q E s
theorem letOwned_other {M : Model} {A : Around} {target : Expr} {I : Addr} {v : Value} {o : Obj} {n : String} {s : Shared} {Q : Unit → Shared → Prop} {E : Value → Shared → Prop}
  (ho : s.heap.get? I = some o) (hc : o.cls = .type n) (hn : ["enumerate","zip","dict_itemiterator","dict_reverseitemiterator","odict_iterator","itertools.zip_longest","itertools.pairwise"].contains n = false) (h : Q () s) :
  wpAny M A (letOwnedTupleGo target (.ref I) v) Q E s:=by
 have key : wpAny M A (do
   let (.ref r,.ref a):=(Value.ref I,v) | return
   let o ← load r
   match o.cls,o.data with
   | .type n,.fields vs =>
    if ["enumerate","zip","dict_itemiterator","dict_reverseitemiterator","odict_iterator","itertools.zip_longest","itertools.pairwise"].contains n && vs[0]? == some (rawInt a) then
     rule "for.unpacks-the-owned-tuple"
     updateField r 0 .none
   | _,_ => pure ()) Q E s:=by
  cases v with
  | ref a =>
   refine wpAny_bind (wpAny_load ho ?_)
   rw [hc]
   cases o.data with
   | fields vs =>
    dsimp only
    rw [hn,Bool.false_and]
    exact wpAny_pure h
   | _ => exact wpAny_pure h
  | _ => exact wpAny_pure h
 cases target with
 | Tuple => exact key
 | List => exact key
 | _ => exact wpAny_pure h
section
variable {prog : Program} {w : World} {A : Around} {O : Addr → Prop}
theorem tree_no {o : Obj} {T : String} (hc : o.cls = .type T) (h : T ≠ "list" ∧ T ≠ "tuple" ∧ T ≠ "dict") : ¬ Tree o:=fun t => by
 unfold Tree at t
 rw [hc] at t
 exact t.elim (fun t => h.1 (Value.type.inj t)) fun t => t.elim (fun t => h.2.1 (Value.type.inj t)) fun t => h.2.2 (Value.type.inj t)
theorem It.of_walks {tg : Expr} {h₀ : Heap} {I : Addr} {ds : List PyData} {St : Nat → Heap → Prop} {fp : List Addr} {P : Nat → Value → Prop} {n : Nat} {T : String} (W : Walks prog w A I fp [I] n P St) (hn : n = ds.length)
  (hT : ∀ i h,St i h → ∃ o,h.get? I = some o ∧ o.cls = .type T) (hTn : T ≠ "list" ∧ T ≠ "tuple" ∧ T ≠ "dict")
  (hc : ["enumerate","zip","dict_itemiterator","dict_reverseitemiterator","odict_iterator","itertools.zip_longest","itertools.pairwise"].contains T = false)
  (hfp : ∀ b ∈ fp,(b = I ∨ (¬ O b ∧ ∃ o,h₀.get? b = some o)) ∧ ∀ i h,St i h → ∀ o,h.get? b = some o → o.cls ≠ .type "frame") (hP : ∀ i v,i < n → P i v → ∃ d,ds[i]? = some d ∧ Rep prog w (fun a => O a ∨ a = I) h₀ v d) : It prog w A tg O h₀ I (· = I) ds St where
 ex:=fun i h st b e => let ⟨o,ho,hc⟩:=hT i h st;⟨o,e ▸ ho,tree_no hc hTn⟩
 frame:=fun i h h' st k => W.frame i h h' st fun b hb o e => k b o ((hfp b hb).2 i h st o e) (hfp b hb).1 e
 turn:=fun i d s N Q E E' O' g old kb hd st hQ => by
  have hi : i < n:=hn ▸ (List.getElem?_eq_some_iff.mp hd).1
  refine W.item i s _ _ hi st fun v h' tk hv st' k => ?_
  obtain ⟨d',hd',r⟩:=hP i v hi hv
  cases hd.symm.trans hd'
  obtain ⟨o,ho,hc'⟩:=hT (i + 1) _ st'
  have k' : KeepBut (· = I) s.heap h':=.of fun b o nb e => k b o (fun z => nb (sMp z)) e
  exact letOwned_other ho hc' hc (hQ v h' tk (((r.more fun a z => (g.new a z).elim (fun z => .inl (.inl z)) fun z => z.imp .inr id).keepBut kb).keepBut (k'.mono fun a e => g.self a e)) st' k')
 done:=fun s Q E st hQ => W.done s Q E (hn ▸ st) fun h' tk k => hQ h' tk (.of fun b o nb e => k b o (fun z => nb (sMp z)) e)
 self:=W.self
theorem rep_not_iter {h₀ : Heap} {I : Addr} {o : Obj} {T : String} {v : Value} {d : PyData} (ho : h₀.get? I = some o) (hc : o.cls = .type T) (h : T ≠ "list" ∧ T ≠ "tuple" ∧ T ≠ "dict") (r : Rep prog w O h₀ v d) :
  Rep prog w (fun a => O a ∨ a = I) h₀ v d:=r.otherC fun a o' e t n z => z.elim n fun z => by
 subst z
 cases ho.symm.trans e
 exact tree_no hc h t
noncomputable def itemsOf : PyData → Option (List PyData)
 | .list xs => some xs
 | .tuple xs => some xs
 | .str x => some (x.cps.toList.map fun c => PyData.str ⟨#[c]⟩)
 | _ => none
variable {E : Value → Shared → Prop} {s : Shared}
theorem seq_it {a I : Addr} {vs : List Value} {xs : List PyData} {h : Heap} {St : Nat → Heap → Prop} {T S : String} (na : ¬ O a) (ha : ∃ o,h.get? a = some o) (W : Walks prog w A I [I,a] [I] vs.toArray.size (fun i v => vs.toArray[i]? = some v) St) (rs : RepAll prog w O h vs xs) {oI : Obj} (hoI : h.get? I = some oI) (hcI : oI.cls = .type T)
  (hT : ∀ i h,St i h → (∃ o,h.get? I = some o ∧ o.cls = .type T) ∧ ∃ o,h.get? a = some o ∧ o.cls = .type S) (hTn : T ≠ "list" ∧ T ≠ "tuple" ∧ T ≠ "dict") (hf : T ≠ "frame" ∧ S ≠ "frame")
  (hc : ["enumerate","zip","dict_itemiterator","dict_reverseitemiterator","odict_iterator","itertools.zip_longest","itertools.pairwise"].contains T = false) (tg : Expr) : It prog w A tg O h I (· = I) xs St :=
 .of_walks W ((List.size_toArray ..).trans rs.length) (fun i h st => (hT i h st).1) hTn hc (fun b hb => by
  have no : ∀ {h : Heap} {b : Addr} {U : String},U ≠ "frame" → (∃ o,h.get? b = some o ∧ o.cls = .type U) → ∀ o,h.get? b = some o → o.cls ≠ .type "frame":=fun hU ⟨o,ho,hc⟩ o' ho' => by cases ho.symm.trans ho';rw [hc];exact fun e => hU (Value.type.inj e)
  rcases cMp hb with rfl | hb
  ·exact ⟨.inl rfl,fun i h st => no hf.1 (hT i h st).1⟩
  ·cases sMp hb;exact ⟨.inr ⟨na,ha⟩,fun i h st => no hf.2 (hT i h st).2⟩) fun i v ζ hv =>
  let ⟨d,hd,r⟩:=rs.get i v (List.getElem?_toArray.symm.trans hv);⟨d,hd,rep_not_iter hoI hcI hTn r⟩
section
variable (hh : A.handled = none) {v : Value} {ds : List PyData} {Q : Value → Shared → Prop} (h : ∀ I h' St,Keep s.heap h' → s.heap.get? I = none → (∀ tg,It prog w A tg O h' I (· = I) ds St) → St 0 h' → Q (.ref I) { s with heap:=h' })
include hh h
theorem iter_str {x : Str} {t : Tok} (hd : x.cps.toList.map (fun c => PyData.str ⟨#[c]⟩) = ds) : wpAny (model prog w) A (pyIter (.str x t)) Q E s:=by
 have fin : ∀ (ty : String) (o : Obj) (W : Walks prog w A s.heap.objs.size [s.heap.objs.size] [s.heap.objs.size] x.cps.size (SignAt x) (fun i h => h.IsStrIter s.heap.objs.size ty x t i))
   (hc : ["enumerate","zip","dict_itemiterator","dict_reverseitemiterator","odict_iterator","itertools.zip_longest","itertools.pairwise"].contains ty = false) (hty : ty ≠ "frame") (htn : ty ≠ "list" ∧ ty ≠ "tuple" ∧ ty ≠ "dict"),
   (s.heap.push o).IsStrIter s.heap.objs.size ty x t 0 → Q (.ref s.heap.objs.size) { s with heap:=s.heap.push o }:=fun ty o W hc hty htn h0 => by
  refine h _ _ _ (Keep.push _ _) (fresh_size _) (fun tg => It.of_walks W (by rw [← hd];simp) (T:=ty) (fun i h st => let ⟨o,ho,hc,_⟩:=st;⟨o,ho,hc⟩) htn hc (fun b hb => ?_) ?_) h0
  ·cases sMp hb
   exact ⟨.inl rfl,fun i h ⟨o1,ho1,hc1,_⟩ o e => by cases ho1.symm.trans e;rw [hc1];exact fun e => hty (Value.type.inj e)⟩
  ·rintro i v _ ⟨c,u,hc,rfl⟩
   exact ⟨_,by rw [← hd];simp [hc],.str _ u⟩
 cases ha : x.cps.all (· < 128)
 ·exact wpAny_pyIter_wide ha (fin _ _ (Walks.strWide hh _ x t) (by decide +kernel) (by decide) (by decide) ⟨_,Heap.get?_push_size _ rfl,rfl,rfl⟩)
 ·exact wpAny_pyIter_ascii ha (fin _ _ (Walks.strAscii hh _ x t) (by decide +kernel) (by decide) (by decide) ⟨_,Heap.get?_push_size _ rfl,rfl,rfl⟩)
theorem iter_rule {d : PyData} (r : Rep prog w O s.heap v d) (hd : itemsOf d = some ds) : wpAny (model prog w) A (pyIter v) Q E s:=by
 cases d with
 | list xs =>
  obtain rfl:=Option.some.inj hd
  refine r.listE fun a vs na l rs => wpAny_pyIter_list l.isList ?_
  have hne : a ≠ s.heap.objs.size:=let ⟨_,ho⟩:=l;Nat.ne_of_lt (Heap.lt_size ho)
  have kp:=Keep.push s.heap { cls:=.type "list_iterator",data:=.fields #[.ref a,.int 0 0] }
  exact h _ _ _ kp (fresh_size _) (seq_it (T:="list_iterator") (S:="list") na (let ⟨_,ho⟩:=l.keepK kp;⟨_,ho⟩) (Walks.list hh _ a hne vs.toArray) (rs.keep kp) (Heap.get?_push_size _ rfl) rfl
   (fun i h st => ⟨let ⟨o,ho,hc,_⟩:=st.1;⟨o,ho,hc⟩,let ⟨o,ho,hc,_⟩:=st.2;⟨o,ho,hc⟩⟩) (by decide) (by decide) (by decide +kernel)) ⟨⟨_,Heap.get?_push_size _ rfl,rfl,rfl⟩,(l.keepK kp).isList⟩
 | tuple xs =>
  obtain rfl:=Option.some.inj hd
  refine r.tupleE fun a vs na l rs => wpAny_pyIter_tuple l.isTuple ?_
  have hne : a ≠ s.heap.objs.size:=let ⟨_,ho⟩:=l;Nat.ne_of_lt (Heap.lt_size ho)
  have kp:=Keep.push s.heap { cls:=.type "tuple_iterator",data:=.fields #[.ref a,.int 0 0] }
  exact h _ _ _ kp (fresh_size _) (seq_it (T:="tuple_iterator") (S:="tuple") na (let ⟨_,ho⟩:=l.keepK kp;⟨_,ho⟩) (Walks.tuple hh _ a hne vs.toArray) (rs.keep kp) (Heap.get?_push_size _ rfl) rfl
   (fun i h st => ⟨let ⟨o,ho,hc,_⟩:=st.1;⟨o,ho,hc⟩,let ⟨o,ho,hc,_⟩:=st.2;⟨o,ho,hc⟩⟩) (by decide) (by decide) (by decide +kernel)) ⟨⟨_,Heap.get?_push_size _ rfl,rfl,rfl⟩,(l.keepK kp).isTuple⟩
 | str x => exact r.strE fun t => iter_str hh h (Option.some.inj hd)
 | _ => exact nomatch hd
end
theorem range_rule (hh : A.handled = none) {R : Addr} {m : Int} {t u v : Tok} (hr : IsRange s.heap R 0 m 1 t u v) (h1 : -1048576 ≤ m) (h2 : m ≤ 1048576) {Q : Value → Shared → Prop}
  (h : ∀ I h' St,Keep s.heap h' → s.heap.get? I = none → (∀ tg,It prog w A tg O h' I (· = I) ((List.range m.toNat).map fun (i : Nat) => PyData.int (i : Int)) St) → St 0 h' → Q (.ref I) { s with heap:=h' }) : wpAny (model prog w) A (pyIter (.ref R)) Q E s:=by
 have hsz : Builtin.Range.rangeSize 0 m 1 = m.toNat:=by
  unfold Builtin.Range.rangeSize
  simp
  omega
 have hsmall : Builtin.Range.small 0 m 1 = true:=by
  unfold Builtin.Range.small Builtin.Range.rangeFitsLong
  rw [hsz]
  simp
  omega
 refine wpAny_pyIter_range hr hsmall ?_
 rw [hsz]
 have kp:=Keep.push s.heap { cls:=.type "range_iterator",data:=.fields #[rawInt 0,rawInt (m.toNat : Int),rawInt 1] }
 refine h _ _ (fun i h => IsRangeIter h s.heap.objs.size (0 + (i : Nat) * 1) (((m.toNat : Nat) : Int) - (i : Nat)) 1) kp (fresh_size _) (fun tg => It.of_walks (Walks.range hh _ 0 1 m.toNat) (by simp)
  (T:="range_iterator") (fun i h st => ⟨_,st,rfl⟩) (by decide) (by decide +kernel) (fun b hb => ?_) ?_) ?_
 ·cases sMp hb
  exact ⟨.inl rfl,fun i h st o e => by cases (show h.get? _ = _ from st).symm.trans e;simp⟩
 ·rintro i v hi ⟨t,rfl⟩
  refine ⟨.int (i : Int),by simp [hi],?_⟩
  rw [show (0 : Int) + (i : Int) * 1 = (i : Int) by omega];exact .int _ _
 ·show (s.heap.push _).get? _ = _
  rw [Heap.get?_push_size _ rfl]
  simp
end
end
section
variable [bs : Base]
noncomputable def Post (prog : Program) (w : World) (O : Addr → Prop) (s s' : Shared) (v : Value) (d : PyData) : Prop :=
 ∃ h' tk,s' = { s with heap:=h',toks:=tk } ∧ Keep s.heap h' ∧ Rep prog w O h' v d
noncomputable abbrev lim : Nat:=1048576
noncomputable def asInt : PyData → Option Int
 | .int a => some a
 | _ => none
noncomputable def asStr : PyData → Option Str
 | .str a => some a
 | _ => none
noncomputable def asList : PyData → Option (List PyData)
 | .list a => some a
 | _ => none
noncomputable def asTuple : PyData → Option (List PyData)
 | .tuple a => some a
 | _ => none
theorem of_elim {α : Type} {o : Option α} {P : α → Prop} (k : o.elim True P) {a : α} (h : o = some a) : P a:=by
 subst h;exact k
theorem asTuple_inv {d : PyData} {a : List PyData} (h : asTuple d = some a) : d = .tuple a:=by
 refine of_elim (P:=fun a => d = .tuple a) ?_ h
 cases d <;> trivial
theorem asInt_inv {d : PyData} {a : Int} (h : asInt d = some a) : d = .int a:=by
 refine of_elim (P:=fun a => d = .int a) ?_ h
 cases d <;> trivial
theorem asStr_inv {d : PyData} {a : Str} (h : asStr d = some a) : d = .str a:=by
 refine of_elim (P:=fun a => d = .str a) ?_ h
 cases d <;> trivial
theorem asList_inv {d : PyData} {a : List PyData} (h : asList d = some a) : d = .list a:=by
 refine of_elim (P:=fun a => d = .list a) ?_ h
 cases d <;> trivial
noncomputable def two {α β γ : Type} (p : PyData → Option α) (q : PyData → Option β) (f : α → β → Option γ) (d1 d2 : PyData) : Option γ:=(p d1).bind fun a => (q d2).bind (f a)
theorem two_inv {α β γ : Type} {p : PyData → Option α} {q : PyData → Option β} {f : α → β → Option γ} {d1 d2 : PyData} {r : γ} (h : two p q f d1 d2 = some r) : ∃ a b,p d1 = some a ∧ q d2 = some b ∧ f a b = some r :=
 let ⟨a,h1,h⟩:=bMp h;let ⟨b,h2,h⟩:=bMp h;⟨a,b,h1,h2,h⟩
noncomputable def int2 {α : Type} : (Int → Int → Option α) → PyData → PyData → Option α:=two asInt asInt
noncomputable def str2 {α : Type} : (Str → Str → Option α) → PyData → PyData → Option α:=two asStr asStr
noncomputable def list2 {α : Type} : (List PyData → List PyData → Option α) → PyData → PyData → Option α:=two asList asList
noncomputable def strInt {α : Type} : (Str → Int → Option α) → PyData → PyData → Option α:=two asStr asInt
theorem ite_inv {α : Type} {c : Prop} [Decidable c] {x : Option α} {r : α} (h : (if c then x else none) = some r) : c ∧ x = some r:=by
 by_cases hc : c
 ·exact ⟨hc,(if_pos hc).symm.trans h⟩
 ·exact nomatch (if_neg hc).symm.trans h
theorem ite_inv' {α : Type} {c : Prop} [Decidable c] {x : Option α} {r : α} (h : (if c then none else x) = some r) : ¬ c ∧ x = some r:=by
 by_cases hc : c
 ·exact nomatch (if_pos hc).symm.trans h
 ·exact ⟨hc,(if_neg hc).symm.trans h⟩
noncomputable def orD {α : Type} (a b : Option α) : Option α:=match a with
 | some x => some x
 | none => b
theorem orD_inv {α : Type} {a b : Option α} {r : α} (h : orD a b = some r) : a = some r ∨ b = some r:=by
 cases a with
 | none => exact .inr h
 | some x => exact .inl h
noncomputable def binop : Operator → PyData → PyData → Option PyData
 | .Add => fun d1 d2 => orD (int2 (fun a b => some (.int (a + b))) d1 d2) (orD (str2 (fun x y => if x.length + y.length ≤ lim then some (.str (x ++ y)) else none) d1 d2) (list2 (fun xs ys => if xs.length + ys.length ≤ lim then some (.list (xs ++ ys)) else none) d1 d2))
 | .Sub => int2 fun a b => some (.int (a - b))
 | .Mult => fun d1 d2 => orD (int2 (fun a b => if b.natAbs < 1073741824 then some (.int (a * b)) else none) d1 d2) (strInt (fun x n => if x.length ≤ 1024 ∧ -1024 ≤ n ∧ n ≤ 1024 then some (.str (Txt.mul x n)) else none) d1 d2)
 | .FloorDiv => int2 fun a b => if b = 0 then none else if b.natAbs < 1073741824 then some (.int (a.fdiv b)) else none
 | .Mod => int2 fun a b => if b = 0 then none else some (.int (a.fmod b))
 | .Pow => int2 fun a b => if 2 ≤ a ∧ a < 1024 ∧ 0 ≤ b ∧ b < 1024 then some (.int (a ^ b.toNat)) else none
 | .BitAnd => int2 fun a b => some (.int (Builtin.bitAnd a b))
 | .BitOr => int2 fun a b => some (.int (Builtin.bitOr a b))
 | .BitXor => int2 fun a b => some (.int (Builtin.bitXor a b))
 | _ => fun ζ ζ => none
section
variable {prog : Program} {w : World} {A : Around} {O : Addr → Prop} {E : Value → Shared → Prop} {s : Shared}
theorem post_same {v : Value} {d : PyData} {tk : Nat} (r : Rep prog w O s.heap v d) : Post prog w O s { s with toks:=tk } v d:=⟨s.heap,tk,rfl,Keep.refl _,r⟩
theorem post_here {v : Value} {d : PyData} (r : Rep prog w O s.heap v d) : Post prog w O s s v d:=⟨s.heap,s.toks,rfl,Keep.refl _,r⟩
theorem newList_post (old : Old O s.heap) {vs : List Value} {ds : List PyData} (r : RepAll prog w O s.heap vs ds) {n : Nat} :
  Post prog w O s { s with heap:=s.heap.push { cls:=.type "list",data:=.seq vs.toArray n } } (.ref s.heap.objs.size) (.list ds) :=
 ⟨_,s.toks,rfl,Keep.push _ _,.list (old.not (fresh_size _)) ⟨n,Heap.get?_push_size _ rfl⟩ (r.keep (Keep.push _ _))⟩
theorem newTuple_post (old : Old O s.heap) {vs : List Value} {ds : List PyData} (r : RepAll prog w O s.heap vs ds) {n : Nat} :
  Post prog w O s { s with heap:=s.heap.push { cls:=.type "tuple",data:=.seq vs.toArray n } } (.ref s.heap.objs.size) (.tuple ds) :=
 ⟨_,s.toks,rfl,Keep.push _ _,.tuple (old.not (fresh_size _)) ⟨n,Heap.get?_push_size _ rfl⟩ (r.keep (Keep.push _ _))⟩
theorem intBits_small {b : Int} (h : b.natAbs < 1073741824) : Builtin.Int.intBits b ≤ 64:=intBits_le_64 (by omega) (by omega)
theorem made_int {Q : Value → Shared → Prop} {a : Int} (h : Q (.int a s.toks) { s with toks:=s.toks + 1 }) : (Made.int a).post Q s:=h
theorem add_rule {l b : Addr} {vs us : List Value} {Q : Value → Shared → Prop} (hl : s.heap.IsList l vs.toArray) (hb : s.heap.IsList b us.toArray) (hsz : vs.length + us.length ≤ 1048576)
  (h : Q (.ref s.heap.objs.size) { s with heap:=s.heap.push { cls:=.type "list",data:=.seq (vs ++ us).toArray 0 } }) : wpAny (model prog w) A (binaryOp .Add (.ref l) (.ref b)) Q E s:=by
 obtain ⟨⟨cls,dd,data,sl⟩,ho,hc,n,hd⟩:=id hl
 obtain ⟨⟨cls2,dd2,data2,sl2⟩,ho2,hc2,n2,hd2⟩:=id hb
 simp only at hc hd hc2 hd2
 subst hc hd hc2 hd2
 have e : vs.toArray ++ us.toArray = (vs ++ us).toArray:=by simp
 refine concat_meets ⟨_,ho,rfl⟩ ⟨_,ho2,rfl⟩ noFill_list_add seq_list_add PySem.F.slot_list_add PySem.F.entry_list_add (PySem.F.args_list_add_2 _ _) (list_addW l b vs.toArray us.toArray n n2 dd dd2 sl sl2 (by rw [sizeLine_eq];simp;omega)) ⟨ho,ho2,?_⟩
 rw [e]
 exact h
section
variable {α : Type} {h : Heap} {v1 v2 : Value} {d1 d2 : PyData} {r : α} {P : Value → Value → Prop} (r1 : Rep prog w O h v1 d1) (r2 : Rep prog w O h v2 d2)
include r1 r2
@[elab_as_elim] theorem int2_rule {f : Int → Int → Option α} (hd : int2 f d1 d2 = some r) (k : ∀ a b t u,f a b = some r → P (.int a t) (.int b u)) : P v1 v2:=by
 obtain ⟨a,b,h1,h2,e⟩:=two_inv hd
 rw [asInt_inv h1] at r1
 rw [asInt_inv h2] at r2
 exact r1.intE fun t => r2.intE fun u => k a b t u e
@[elab_as_elim] theorem str2_rule {f : Str → Str → Option α} (hd : str2 f d1 d2 = some r) (k : ∀ a b t u,f a b = some r → P (.str a t) (.str b u)) : P v1 v2:=by
 obtain ⟨a,b,h1,h2,e⟩:=two_inv hd
 rw [asStr_inv h1] at r1
 rw [asStr_inv h2] at r2
 exact r1.strE fun t => r2.strE fun u => k a b t u e
@[elab_as_elim] theorem strInt_rule {f : Str → Int → Option α} (hd : strInt f d1 d2 = some r) (k : ∀ a b t u,f a b = some r → P (.str a t) (.int b u)) : P v1 v2:=by
 obtain ⟨a,b,h1,h2,e⟩:=two_inv hd
 rw [asStr_inv h1] at r1
 rw [asInt_inv h2] at r2
 exact r1.strE fun t => r2.intE fun u => k a b t u e
@[elab_as_elim] theorem list2_rule {f : List PyData → List PyData → Option α} (hd : list2 f d1 d2 = some r) (k : ∀ xs ys a b vs us,f xs ys = some r → PL h a vs → RepAll prog w O h vs xs → PL h b us → RepAll prog w O h us ys → P (.ref a) (.ref b)) : P v1 v2:=by
 obtain ⟨a,b,h1,h2,e⟩:=two_inv hd
 rw [asList_inv h1] at r1
 rw [asList_inv h2] at r2
 exact r1.listE fun ζ ζ ζ l1 q1 => r2.listE fun ζ ζ ζ l2 q2 => k _ _ _ _ _ _ e l1 q1 l2 q2
end
theorem pow_rule {i j : Int} {t u : Tok} (hb : 2 ≤ i ∧ i < 1024 ∧ 0 ≤ j ∧ j < 1024) {Q : Value → Shared → Prop} (h : ∀ k,Q (.int (i ^ j.toNat) k) { s with toks:=s.toks + 1 }) : wpAny (model prog w) A (binaryOp .Pow (.int i t) (.int j u)) Q E s:=by
 by_cases h0 : j = 0
 ·subst h0
  have e : i ^ (Int.toNat 0) = 1:=Int.pow_zero i
  rw [e] at h
  exact AutoIntOps.pow_0 (by omega) (by rfl) (made_int (h _))
 ·refine AutoIntOps.pow_4 (by omega) (by simpa using h0) ?_ ?_ ?_ (made_int (h _))
  ·simp only [Bool.or_eq_true,beq_iff_eq];omega
  ·simp only [beq_iff_eq];omega
  ·have hb1 : Builtin.Int.intBits i ≤ 64:=intBits_small (by omega)
   have : ((Builtin.Int.intBits i : Nat) : Int) * j ≤ 64 * 1024:=Int.mul_le_mul (by omega) (by omega) (by omega) (by omega)
   have hb2 : bitsLine = 134217728:=by decide
   simp only [Builtin.Int.intTooBig,decide_eq_true_eq,hb2]
   omega
theorem binop_rule (old : Old O s.heap) {op : Operator} {v1 v2 : Value} {d1 d2 d : PyData} (r1 : Rep prog w O s.heap v1 d1) (r2 : Rep prog w O s.heap v2 d2) (hd : binop op d1 d2 = some d) {Q : Value → Shared → Prop}
  (h : ∀ v s',Post prog w O s s' v d → Q v s') : wpAny (model prog w) A (binaryOp op v1 v2) Q E s:=by
 have hi : ∀ {a k tk},some (PyData.int a) = some d → Q (.int a k) { s with toks:=tk }:=fun e => h _ _ (Option.some.inj e ▸ post_same (.int _ _))
 have hs : ∀ {a k tk},some (PyData.str a) = some d → Q (.str a k) { s with toks:=tk }:=fun e => h _ _ (Option.some.inj e ▸ post_same (.str _ _))
 cases op with
 | Add =>
  exact (orD_inv hd).elim (fun hd => int2_rule r1 r2 hd fun ζ ζ ζ ζ e => wpAny_add_int (hi e)) fun hd => (orD_inv hd).elim
   (fun hd => str2_rule r1 r2 hd fun ζ ζ ζ ζ e => SB.add (fun ζ ζ => hs (ite_inv e).2) (by rw [sizeLine_eq];have:=(ite_inv e).1;unfold lim at this;omega))
   fun hd => list2_rule r1 r2 hd fun ζ ζ ζ ζ ζ ζ e l1 q1 l2 q2 => add_rule l1.isList l2.isList (by rw [q1.length,q2.length];exact (ite_inv e).1) (h _ _ (Option.some.inj (ite_inv e).2 ▸ newList_post old (q1.append q2)))
 | Sub => exact int2_rule r1 r2 hd fun ζ ζ ζ ζ e => AutoIntOps.sub_0 (made_int (hi e))
 | Mult =>
  exact (orD_inv hd).elim (fun hd => int2_rule r1 r2 hd fun ζ ζ ζ ζ e => AutoIntOps.mul_0 (made_int (hi (ite_inv e).2)) (IntMulOk.of_right (intBits_small (ite_inv e).1)))
   fun hd => strInt_rule r1 r2 hd fun ζ ζ ζ ζ e => let hb:=(ite_inv e).1;SB.mul (mulOk_of 1024 1024 hb.1 (by omega) (by omega) (by omega) (by omega)) (fun ζ ζ => hs (ite_inv e).2)
 | FloorDiv => exact int2_rule r1 r2 hd fun ζ ζ ζ ζ e => AutoIntOps.floordiv_1 (by simpa using (ite_inv' e).1) (by rw [PyProof.noPylong_small (ite_inv (ite_inv' e).2).1];simp) (made_int (hi (ite_inv (ite_inv' e).2).2))
 | Mod => exact int2_rule r1 r2 hd fun ζ ζ ζ ζ e => AutoIntOps.mod_1 (by simpa using (ite_inv' e).1) (made_int (hi (ite_inv' e).2))
 | Pow => exact int2_rule r1 r2 hd fun ζ ζ ζ ζ e => pow_rule (ite_inv e).1 fun ζ => hi (ite_inv e).2
 | BitAnd => exact int2_rule r1 r2 hd fun ζ ζ ζ ζ e => and_int (hi (tk:=s.toks + 1) e)
 | BitOr => exact int2_rule r1 r2 hd fun ζ ζ ζ ζ e => or_int (hi (tk:=s.toks + 1) e)
 | BitXor => exact int2_rule r1 r2 hd fun ζ ζ ζ ζ e => xor_int (hi (tk:=s.toks + 1) e)
 | _ => exact nomatch hd
end
end
section
variable [bs : Base]
noncomputable def eqD (d1 d2 : PyData) : Option Bool:=orD (str2 (fun x y => some (x == y)) d1 d2) (if SeqAt.shaped d1 = true ∧ SeqAt.shaped d2 = true then some (PyData.eqv d1 d2) else none)
noncomputable def itemsD : PyData → Option (List PyData × Bool)
 | .list xs => some (xs,true)
 | .tuple xs => some (xs,false)
 | _ => none
noncomputable def inD (d1 d2 : PyData) : Option Bool:=orD (str2 (fun y x => some (Txt.contains x y)) d1 d2) ((itemsD d2).bind fun p => if SeqAt.shaped d1 = true ∧ SeqAt.shaped d2 = true then some (p.1.any fun y => PyData.eqv y d1) else none)
noncomputable def isD : PyData → PyData → Option Bool
 | .none,.none => some true
 | .str _,.none => some false
 | _,_ => none
noncomputable def cmpop : CmpOp → PyData → PyData → Option Bool
 | .Eq => eqD
 | .NotEq => fun d1 d2 => (eqD d1 d2).map (!·)
 | .Lt => int2 fun a b => some (decide (a < b))
 | .LtE => int2 fun a b => some (decide (a ≤ b))
 | .Gt => int2 fun a b => some (decide (a > b))
 | .GtE => int2 fun a b => some (decide (a ≥ b))
 | .In => inD
 | .NotIn => fun d1 d2 => (inD d1 d2).map (!·)
 | .Is => isD
 | _ => fun ζ ζ => none
theorem shaped_list {xs : List PyData} (h : SeqAt.shaped (.list xs) = true) : PyData.canLayAll0 xs = true ∧ PyData.depthAll xs ≤ 64:=by
 unfold SeqAt.shaped at h
 simp only [Bool.and_eq_true,decide_eq_true_eq] at h
 exact ⟨h.1,by have:=h.2;simp only [PyData.depth] at this;omega⟩
theorem shaped_tuple {xs : List PyData} (h : SeqAt.shaped (.tuple xs) = true) : PyData.canLayAll0 xs = true ∧ PyData.depthAll xs ≤ 64:=by
 unfold SeqAt.shaped at h
 simp only [Bool.and_eq_true,decide_eq_true_eq] at h
 exact ⟨h.1,by have:=h.2;simp only [PyData.depth] at this;omega⟩
section
variable {prog : Program} {w : World} {A : Around} {O : Addr → Prop} {E : Value → Shared → Prop} {s : Shared}
theorem room_in' {A : Around} {a b : Nat} (hu : A.units + 80 < cLine) (h : a ≤ 64) : A.units + 1 + min a b < cLine:=by
 have : min a b ≤ a:=Nat.min_le_left _ _
 omega
theorem shaped_rule {v1 v2 : Value} {d1 d2 : PyData} {b : Bool} (r1 : Rep prog w O s.heap v1 d1) (r2 : Rep prog w O s.heap v2 d2) {c : Bool} (hd : (if SeqAt.shaped d1 = true ∧ SeqAt.shaped d2 = true then some c else none) = some b) {P : Bool → Prop}
  (k : ∀ as bs,Reads s.heap v1 d1 as → Reads s.heap v2 d2 bs → SeqAt.shaped d1 = true → SeqAt.shaped d2 = true → P c) : P b:=by
 obtain ⟨hs,e⟩:=ite_inv hd
 obtain ⟨_,ra⟩:=r1.reads (SeqAt.canLay_of_shaped hs.1)
 obtain ⟨_,rb⟩:=r2.reads (SeqAt.canLay_of_shaped hs.2)
 exact Option.some.inj e ▸ k _ _ ra rb hs.1 hs.2
theorem in_rule (hu : A.units + 80 < cLine) {v1 v2 : Value} {d1 d2 : PyData} {b : Bool} (r1 : Rep prog w O s.heap v1 d1) (r2 : Rep prog w O s.heap v2 d2) (hd : inD d1 d2 = some b) {Q : Value → Shared → Prop} :
  (Q (.bool b) s → wpAny (model prog w) A (compareOp .In v1 v2) Q E s) ∧ (Q (.bool !b) s → wpAny (model prog w) A (compareOp .NotIn v1 v2) Q E s):=by
 rcases orD_inv hd with hd | hd
 ·exact ⟨fun h => str2_rule r1 r2 hd fun ζ ζ ζ ζ e => SB.contains (Option.some.inj e ▸ h),fun h => str2_rule r1 r2 hd fun ζ ζ ζ ζ e => SB.notContains (by obtain rfl:=Option.some.inj e;exact h)⟩
 ·obtain ⟨p,hp,e⟩:=bMp hd
  clear hd
  cases d2 with
  | list xs =>
   obtain rfl:=Option.some.inj hp
   refine shaped_rule r1 r2 e (P:=fun b => (Q (.bool b) s → _) ∧ (Q (.bool !b) s → _)) fun ζ ζ ra rb s1 s2 => ?_
   have hx:=shaped_list s2
   exact ⟨SeqAt.in_list_reads rb ra hx.1 (SeqAt.canLay_of_shaped s1) (room_in' hu hx.2),SeqAt.notIn_list_reads rb ra hx.1 (SeqAt.canLay_of_shaped s1) (room_in' hu hx.2)⟩
  | tuple xs =>
   obtain rfl:=Option.some.inj hp
   refine shaped_rule r1 r2 e (P:=fun b => (Q (.bool b) s → _) ∧ (Q (.bool !b) s → _)) fun ζ ζ ra rb s1 s2 => ?_
   have hx:=shaped_tuple s2
   exact ⟨SeqAt.in_tuple_reads rb ra hx.1 (SeqAt.canLay_of_shaped s1) (room_in' hu hx.2),SeqAt.notIn_tuple_reads rb ra hx.1 (SeqAt.canLay_of_shaped s1) (room_in' hu hx.2)⟩
  | _ => exact nomatch hp
theorem cmpop_rule (hu : A.units + 80 < cLine) {op : CmpOp} {v1 v2 : Value} {d1 d2 : PyData} {b : Bool} (r1 : Rep prog w O s.heap v1 d1) (r2 : Rep prog w O s.heap v2 d2) (hd : cmpop op d1 d2 = some b) {Q : Value → Shared → Prop}
  (h : Q (.bool b) s) : wpAny (model prog w) A (compareOp op v1 v2) Q E s:=by
 cases op with
 | Eq =>
  exact (orD_inv hd).elim (fun hd => str2_rule r1 r2 hd fun ζ ζ ζ ζ e => PyProof.Rows.eq_str (Option.some.inj e ▸ h)) fun hd =>
   shaped_rule r1 r2 hd (P:=fun b => Q (.bool b) s → _) (fun ζ ζ ra rb s1 s2 h => SeqAt.compareEq_shaped ra rb s1 s2 (by omega) h) h
 | NotEq =>
  obtain ⟨c,hc,rfl⟩:=oMp hd
  exact (orD_inv hc).elim (fun hd => str2_rule r1 r2 hd fun ζ ζ ζ ζ e => PyProof.Rows.ne_str (by obtain rfl:=Option.some.inj e;exact h)) fun hd =>
   shaped_rule r1 r2 hd (P:=fun b => Q (.bool !b) s → _) (fun ζ ζ ra rb s1 s2 h => SeqAt.compareNe_shaped ra rb s1 s2 (by omega) h) h
 | Lt => exact int2_rule r1 r2 hd fun ζ ζ ζ ζ e => wpAny_lt_int (Option.some.inj e ▸ h)
 | LtE => exact int2_rule r1 r2 hd fun ζ ζ ζ ζ e => P.le_int (Option.some.inj e ▸ h)
 | Gt => exact int2_rule r1 r2 hd fun ζ ζ ζ ζ e => P.gt_int (Option.some.inj e ▸ h)
 | GtE => exact int2_rule r1 r2 hd fun ζ ζ ζ ζ e => P.ge_int (Option.some.inj e ▸ h)
 | In => exact (in_rule hu r1 r2 hd).1 h
 | NotIn =>
  obtain ⟨c,hc,rfl⟩:=oMp hd
  exact (in_rule hu r1 r2 hc).2 h
 | Is =>
  cases d2 with
  | none =>
   rw [show v2 = .none from r2.is]
   cases d1 with
   | none => obtain rfl:=Option.some.inj hd;rw [show v1 = .none from r1.is];exact wpAny_is_self rfl h
   | str x => obtain rfl:=Option.some.inj hd;exact r1.strE fun t => wpAny_is_other rfl nofun h
   | _ => exact nomatch hd
  | _ => cases d1 <;> exact nomatch hd
 | _ => exact nomatch hd
noncomputable def getitem : PyData → PyData → Option PyData
 | .list xs => fun k => (asInt k).bind fun k => if xs.length ≤ lim then (seqIndex? k xs.length).bind (xs[·]?) else none
 | .tuple xs => fun k => (asInt k).bind fun k => if xs.length ≤ lim then (seqIndex? k xs.length).bind (xs[·]?) else none
 | .str x => fun k => (asInt k).bind fun k => if x.length ≤ lim ∧ -(x.length : Int) ≤ k ∧ k < x.length then some (.str (Txt.item x k)) else none
 | .dict kvs => fun k => (asStr k).bind fun k => (kvs.find? fun e => match e.1 with | .str y => k == y | _ => false).map (·.2)
 | _ => fun ζ => none
theorem seqIndex_cases {k : Int} {n j : Nat} (h : seqIndex? k n = some j) : (0 ≤ k ∧ k < n ∧ j = k.toNat) ∨ (k < 0 ∧ -(n : Int) ≤ k ∧ j = (k + n).toNat):=by
 unfold seqIndex? at h
 simp only [Bool.and_eq_true,decide_eq_true_eq] at h
 split at h
 ·split at h
  ·right;injection h with h;omega
  ·cases h
 ·split at h
  ·left;injection h with h;omega
  ·cases h
theorem subscripted_any (e : Expr) (o i : Value) : ∃ ops,subscripted e false o i = operate ops (getItem o i):=by
 cases e with
 | Slice a b c p => cases c <;> exact ⟨_,rfl⟩
 | _ => exact ⟨_,rfl⟩
theorem dict_find {k : Str} {e : PyData × PyData} {ents : List (Str × Value)} {xs : List PyData} (r : RepAll prog w O s.heap (ents.map (·.2)) xs)
  (h : ((ents.map fun e => PyData.str e.1).zip xs).find? (fun e => match e.1 with | .str y => k == y | _ => false) = some e) : ∃ v,valueAt ents k = some v ∧ Rep prog w O s.heap v e.2:=by
 induction ents generalizing xs with
 | nil => exact nomatch h
 | cons p ents ih =>
  cases xs with
  | nil => exact nomatch h
  | cons d xs =>
   obtain ⟨u,us,eu,x,y⟩:=r.is
   cases eu
   unfold valueAt
   rw [List.find?_cons]
   revert h
   show (match k == p.1 with | true => some (PyData.str p.1,d) | false => _) = _ → _
   cases hk : k == p.1 with
   | true => intro h;obtain rfl:=Option.some.inj h;rw [decide_eq_true (beq_iff_eq.mp hk).symm];exact ⟨_,rfl,x⟩
   | false => intro h;rw [decide_eq_false fun q => absurd hk (by rw [q,beq_self_eq_true];exact Bool.true_eq_false.mp)];exact ih y h
section
variable {value slice : Expr} {v1 : Value} {Q : Value → Shared → Prop} {d : PyData} (h : ∀ v s',Post prog w O s s' v d → Q v s')
include h
theorem getitem_list {xs : List PyData} {k : Int} {t : Tok} (r1 : Rep prog w O s.heap v1 (.list xs)) (hlim : xs.length ≤ lim) (hd : (seqIndex? k xs.length).bind (xs[·]?) = some d) : wpAny (model prog w) A (subscriptTail value slice v1 (.int k t)) Q E s:=by
 obtain ⟨ops,hs⟩:=subscripted_any slice v1 (.int k t)
 obtain ⟨j,hj,hx⟩:=bMp hd
 obtain ⟨a,vs,rfl,-,l,rs⟩:=r1.is
 obtain ⟨v,hv,rv⟩:=rs.get' j d hx
 rw [← rs.length,← List.size_toArray] at hj
 rw [← rs.length] at hlim
 refine tail_any l.isList.typeIs slot_list_getitem.lookup ?_ hs
 rcases seqIndex_cases hj with ⟨h0,h1,rfl⟩ | ⟨h0,h1,rfl⟩
 ·exact wpAny_getItem_list l.isList h0 (Int.lt_of_lt_of_le h1 (Int.le_trans (Int.ofNat_le.mpr hlim) (by decide))) (List.getElem?_toArray.trans hv) (h _ _ (post_here rv))
 ·exact wpAny_getItem_list_neg l.isList h0 h1 (by unfold lim at hlim;rw [List.size_toArray] at h1;omega) (x:=v) (List.getElem?_toArray.trans hv) (h _ _ (post_here rv))
theorem getitem_tuple {xs : List PyData} {k : Int} {t : Tok} (r1 : Rep prog w O s.heap v1 (.tuple xs)) (hlim : xs.length ≤ lim) (hd : (seqIndex? k xs.length).bind (xs[·]?) = some d) : wpAny (model prog w) A (subscriptTail value slice v1 (.int k t)) Q E s:=by
 obtain ⟨ops,hs⟩:=subscripted_any slice v1 (.int k t)
 obtain ⟨j,hj,hx⟩:=bMp hd
 obtain ⟨a,vs,rfl,-,l,rs⟩:=r1.is
 obtain ⟨v,hv,rv⟩:=rs.get' j d hx
 have hc:=seqIndex_cases hj
 unfold lim at hlim
 refine tail_any (T:="tuple") (let ⟨o,ho,hc,_⟩:=l.isTuple;⟨o,ho,hc⟩) slot_tuple_getitem.lookup ?_ hs
 exact PyProof.Rows.getItem_tuple (j:=j) l.isTuple (by omega) (by omega) (by rw [List.size_toArray,rs.length];exact hj) (List.getElem?_toArray.trans hv) (h _ _ (post_here rv))
end
theorem getitem_rule {value slice : Expr} {v1 v2 : Value} {d1 d2 d : PyData} (r1 : Rep prog w O s.heap v1 d1) (r2 : Rep prog w O s.heap v2 d2) (hd : getitem d1 d2 = some d) {Q : Value → Shared → Prop}
  (h : ∀ v s',Post prog w O s s' v d → Q v s') : wpAny (model prog w) A (subscriptTail value slice v1 v2) Q E s:=by
 cases d1 with
 | list xs =>
  obtain ⟨k,hk,e⟩:=bMp hd
  rw [asInt_inv hk] at r2
  exact r2.intE fun t => getitem_list h r1 (ite_inv e).1 (ite_inv e).2
 | tuple xs =>
  obtain ⟨k,hk,e⟩:=bMp hd
  rw [asInt_inv hk] at r2
  exact r2.intE fun t => getitem_tuple h r1 (ite_inv e).1 (ite_inv e).2
 | str x =>
  obtain ⟨k,hk,e⟩:=bMp hd
  rw [asInt_inv hk] at r2
  obtain ⟨hb,e⟩:=ite_inv e
  refine r1.strE fun t => r2.intE fun t' => ?_
  obtain ⟨ops,hs⟩:=subscripted_any slice (.str x t) (.int k t')
  obtain ⟨T,id,q1,q2,q3⟩:=SBL.item (prog:=prog) (w:=w) (A:=A) (E:=E) (s:=s) (Q:=Q) hb.2.1 hb.2.2 (by have:=hb.1;unfold lim at this;omega) (fun ζ => h _ _ (Option.some.inj e ▸ post_same (.str _ _)))
  exact tail_any q2 q1 q3 hs
 | dict kvs =>
  obtain ⟨k,hk,e⟩:=bMp hd
  rw [asStr_inv hk] at r2
  obtain ⟨a,ents,xs,rfl,rfl,-,_,l,rs⟩:=r1.is
  obtain ⟨x,he,e⟩:=oMp e
  obtain ⟨v,hv,rv⟩:=dict_find rs he
  refine r2.strE fun t => ?_
  obtain ⟨ops,hs⟩:=subscripted_any slice (.ref a) (.str k t)
  exact tail_any l.typeIs slot_dict_getitem.lookup (wpAny_getItem_of (strKind_is prog w _ _) l.mapOf hv (h _ _ (e ▸ post_same rv))) hs
 | _ => exact nomatch hd
end
end
section
variable [bs : Base]
noncomputable def pickD (xs : List PyData) (lo hi st : Option Int) : List PyData :=
 (sliceRange (sliceBounds lo hi st xs.length).1 (sliceBounds lo hi st xs.length).2.1 (sliceBounds lo hi st xs.length).2.2).filterMap (xs[·]?)
noncomputable def slice : PyData → Option Int → Option Int → Option Int → Option PyData
 | .list xs => fun lo hi st => if xs.length ≤ lim ∧ st ≠ some 0 then some (.list (pickD xs lo hi st)) else none
 | .str x => fun lo hi st => match st with
  | none => if x.length ≤ lim then some (.str (Txt.slice x lo hi)) else none
  | _ => none
 | _ => fun ζ ζ ζ => none
noncomputable def truth : PyData → Option Bool
 | .bool b => some b
 | .list xs => if xs.length ≤ lim then some (!xs.isEmpty) else none
 | _ => none
section
variable {prog : Program} {w : World} {A : Around} {O : Addr → Prop} {E : Value → Shared → Prop} {s : Shared}
theorem isPart_value {v : Value} {k : Option Int} (h : IsPart v k) : ∃ p : Option (Int × Tok),v = partValue p ∧ p.map (·.1) = k:=by
 cases h with
 | none => exact ⟨none,rfl,rfl⟩
 | int i t => exact ⟨some (i,t),rfl,rfl⟩
set_option tactic.hygienic true in
theorem slice_rule (old : Old O s.heap) {value slc : Expr} {v1 : Value} {sl : Addr} {vl vu vs : Value} {lo hi st : Option Int} {d1 d : PyData} (r1 : Rep prog w O s.heap v1 d1)
  (hsl : s.heap.IsSliceOf sl vl vu vs) (pl : IsPart vl lo) (pu : IsPart vu hi) (ps : IsPart vs st) (hd : slice d1 lo hi st = some d) {Q : Value → Shared → Prop}
  (h : ∀ v s',Post prog w O s s' v d → Q v s') : wpAny (model prog w) A (subscriptTail value slc v1 (.ref sl)) Q E s:=by
 obtain ⟨ops,hs⟩:=subscripted_any slc v1 (.ref sl)
 cases d1 with
 | list xs =>
  obtain ⟨hb,e⟩:=ite_inv hd
  obtain rfl:=Option.some.inj e
  obtain ⟨a,ws,rfl,-,l,rs⟩:=r1.is
  refine tail_any l.isList.typeIs slot_list_getitem.lookup (wpAny_getItem_list_slice l.isList hsl pl pu ps hb.2 ?_ (by have:=hb.1;unfold lim at this;rw [sizeLine_eq,List.size_toArray,rs.length];omega)) hs
  rw [show slicePick ws.toArray lo hi st = ((sliceRange (sliceBounds lo hi st xs.length).1 (sliceBounds lo hi st xs.length).2.1 (sliceBounds lo hi st xs.length).2.2).filterMap (ws[·]?)).toArray by unfold slicePick;simp [rs.length]]
  exact h _ _ (newList_post old (rs.pick _))
 | str x =>
  cases ps with
  | int => exact nomatch hd
  | none =>
   obtain ⟨hb,e⟩:=ite_inv hd
   obtain rfl:=Option.some.inj e
   obtain ⟨t,rfl⟩:=r1.is
   obtain ⟨pl',rfl,e1⟩:=isPart_value pl
   obtain ⟨pu',rfl,e2⟩:=isPart_value pu
   obtain ⟨o,ho,hc,hdd⟩:=hsl
   refine tail_any (typeIs_str _ _ _) F.slot_str_getitem.lookup (wpAny_getItem_str_slice (l:=pl') (u:=pu') (st:=none) ⟨o,ho,hc,hdd⟩ rfl ?_) hs
   have hle:=Nat.le_trans (Txt.slice_le x lo hi) hb
   subst e1 e2
   unfold sliceMade slicePicked
   unfold Txt.slice at h hle
   simp only [Option.map_none,Option.getD_none] at *
   split
   ·rename_i hc';rw [if_pos hc'] at h;exact h _ _ (post_here (.str _ _))
   ·rename_i hc';rw [if_neg hc'] at h hle;exact ⟨by rw [sizeLine_eq];unfold lim at hle;omega,h _ _ (post_same (.str _ _))⟩
 | _ => exact nomatch hd
theorem truth_rule {v : Value} {d : PyData} {b : Bool} (r : Rep prog w O s.heap v d) (hd : truth d = some b) {Q : Bool → Shared → Prop} (h : ∀ tk,Q b { s with toks:=tk }) : wpAny (model prog w) A (truthy v) Q E s:=by
 cases d with
 | bool c => cases hd;rw [show v = .bool b from r.is];exact wpAny_truthy_bool (h s.toks)
 | list xs =>
  obtain ⟨hb,e⟩:=ite_inv hd
  obtain rfl:=Option.some.inj e
  refine r.listE fun a ws ζ l rs => wpAny_truthy_list l.isList (by unfold lim at hb;rw [List.size_toArray,rs.length];omega) ?_
  have e : ws.toArray.isEmpty = xs.isEmpty:=by
   cases xs with
   | nil => rw [show ws = [] from rs.is];rfl
   | cons => obtain ⟨_,_,rfl,_⟩:=rs.is;rfl
  rw [e];exact h _
 | _ => exact nomatch hd
section
variable {α : Type} {h : Heap} {v : Value} {d : PyData} {x : α} {P : Value → Prop} (r : Rep prog w O h v d)
include r
@[elab_as_elim] theorem asInt_rule {f : Int → Option α} (hd : (asInt d).bind f = some x) (k : ∀ i t,f i = some x → P (.int i t)) : P v:=by
 obtain ⟨a,h1,e⟩:=bMp hd
 rw [asInt_inv h1] at r
 exact r.intE fun t => k a t e
@[elab_as_elim] theorem asStr_rule {f : Str → Option α} (hd : (asStr d).bind f = some x) (k : ∀ i t,f i = some x → P (.str i t)) : P v:=by
 obtain ⟨a,h1,e⟩:=bMp hd
 rw [asStr_inv h1] at r
 exact r.strE fun t => k a t e
@[elab_as_elim] theorem asList_rule {f : List PyData → Option α} (hd : (asList d).bind f = some x) (k : ∀ xs a vs,¬ O a → PL h a vs → RepAll prog w O h vs xs → f xs = some x → P (.ref a)) : P v:=by
 obtain ⟨a,h1,e⟩:=bMp hd
 rw [asList_inv h1] at r
 exact r.listE fun b vs n l q => k a b vs n l q e
end
noncomputable def mapO {α : Type} (f : PyData → Option α) : List PyData → Option (List α)
 | [] => some []
 | d :: r => (f d).bind fun a => (mapO f r).map (a :: ·)
noncomputable def intsOf : List PyData → Option (List Int):=mapO asInt
noncomputable def strsOf : List PyData → Option (List Str):=mapO asStr
theorem RepAll.strs {vs : List Value} {ds : List PyData} {xs : List Str} {h : Heap} (r : RepAll prog w O h vs ds) (e : strsOf ds = some xs) : StrsAre vs xs:=by
 induction ds generalizing vs xs with
 | nil => obtain rfl:=Option.some.inj e;rw [show vs = [] from r.is];exact .nil
 | cons d ds ih =>
  obtain ⟨u,us,rfl,x,y⟩:=r.is
  refine asStr_rule x e fun i t e => ?_
  obtain ⟨ys,h1,rfl⟩:=oMp e
  exact .cons i t (ih y h1)
theorem RepAll.ints {vs : List Value} {ds : List PyData} {xs : List Int} {h : Heap} (r : RepAll prog w O h vs ds) (e : intsOf ds = some xs) : ∃ ps : List (Int × Tok),vs = ps.map (fun p => Value.int p.1 p.2) ∧ ps.map (·.1) = xs:=by
 induction ds generalizing vs xs with
 | nil => obtain rfl:=Option.some.inj e;exact ⟨[],r.is,rfl⟩
 | cons d ds ih =>
  obtain ⟨u,us,rfl,x,y⟩:=r.is
  refine asInt_rule x e fun i t e => ?_
  obtain ⟨ys,h1,rfl⟩:=oMp e
  obtain ⟨ps,rfl,rfl⟩:=ih y h1
  exact ⟨(i,t) :: ps,rfl,rfl⟩
theorem StrsAre.rep {vs : List Value} {xs : List Str} {h : Heap} (r : StrsAre vs xs) : RepAll prog w O h vs (xs.map PyData.str):=by
 induction r with
 | nil => exact .nil
 | cons x t _ ih => exact .cons (.str x t) ih
theorem strValues_rep {h : Heap} (l : List (Str × Tok)) : RepAll prog w O h (strValues l) ((l.map (·.1)).map PyData.str):=by
 induction l with
 | nil => exact .nil
 | cons p l ih => exact .cons (.str p.1 p.2) ih
noncomputable def sortT (xs : List Str) : List Str:=xs.mergeSort fun x y => !decide (y.cps.toList < x.cps.toList)
noncomputable def lenD (d : PyData) : Option PyData:=orD ((asList d).bind fun xs => if xs.length ≤ lim then some (.int xs.length) else none) ((asStr d).bind fun x => if x.length ≤ lim then some (.int x.length) else none)
noncomputable def sumD (d : PyData) : Option PyData:=(asList d).bind fun xs => (intsOf xs).map fun ns => .int ns.sum
noncomputable def sortedD (d : PyData) : Option PyData:=(asList d).bind fun xs => if xs.length < 64 then (strsOf xs).map fun ss => .list ((sortT ss).map .str) else none
noncomputable def minD (d : PyData) : Option PyData:=(asList d).bind fun xs => (intsOf xs).bind fun ns => ns.min?.map .int
noncomputable def maxD (d : PyData) : Option PyData:=(asTuple d).bind fun xs => (intsOf xs).bind fun ns => ns.max?.map .int
noncomputable def copyD (d : PyData) : Option PyData:=(asList d).bind fun xs => if xs.length ≤ lim then some (.list xs) else none
noncomputable def strD (d : PyData) : Option PyData:=(asInt d).bind fun a => if a.natAbs < 4611686018427387904 then some (.str (Str.ofString (toString a))) else none
noncomputable def intD (d : PyData) : Option PyData:=(asStr d).bind fun x => if x.length ≤ 640 then (PySem.intText? x).map .int else none
noncomputable def builtin1 (f : String) (d : PyData) : Option PyData :=
 if f = "len" then lenD d else if f = "sum" then sumD d else if f = "sorted" then sortedD d else if f = "min" then minD d else if f = "str" then strD d else if f = "int" then intD d else if f = "max" then maxD d else if f = "list" then copyD d else none
end
end
section
variable [bs : Base]
noncomputable def leS (x y : Str) : Bool:=!decide (y.cps.toList < x.cps.toList)
theorem leS_iff (x y : Str) : leS x y = true ↔ x.cps.toList ≤ y.cps.toList:=by
 unfold leS
 rw [Bool.not_eq_true',decide_eq_false_iff_not,List.not_lt]
theorem leS_trans (x y z : Str) (h1 : leS x y = true) (h2 : leS y z = true) : leS x z = true:=by
 rw [leS_iff] at *;exact List.le_trans h1 h2
theorem leS_total (x y : Str) : (leS x y || leS y x) = true:=by
 rw [Bool.or_eq_true,leS_iff,leS_iff];exact List.le_total _ _
theorem leS_anti (x y : Str) (h1 : leS x y = true) (h2 : leS y x = true) : x = y:=by
 rw [leS_iff] at *
 have:=List.le_antisymm h1 h2
 obtain ⟨⟨a⟩⟩:=x
 obtain ⟨⟨b⟩⟩:=y
 simp only at this
 rw [this]
theorem sortT_perm (xs : List Str) : (sortT xs).Perm xs:=List.mergeSort_perm _ _
theorem sortT_sorted (xs : List Str) : (sortT xs).Pairwise fun x y => leS x y = true:=List.pairwise_mergeSort leS_trans leS_total xs
theorem sorted_unique {l₁ l₂ : List Str} (h1 : l₁.Pairwise fun x y => leS x y = true) (h2 : l₂.Pairwise fun x y => leS x y = true) (p : l₁.Perm l₂) : l₁ = l₂ :=
 List.Perm.eq_of_pairwise (fun a b ζ ζ x y => leS_anti a b x y) h1 h2 p
theorem rising_pairwise : ∀ (l : List Str) (p : Str),risingS p l = true → (p :: l).Pairwise fun x y => leS x y = true
 | [],p,_ => by simp
 | x :: r,p,h => by
  simp only [risingS,Bool.and_eq_true] at h
  have hpx : leS p x = true:=by
   unfold leS;rw [← ltCps_eq];exact h.1
  have ih:=rising_pairwise r x h.2
  refine List.pairwise_cons.mpr ⟨fun y hy => ?_,ih⟩
  rcases cMp hy with rfl | hy
  ·exact hpx
  ·exact leS_trans _ _ _ hpx ((List.pairwise_cons.mp ih).1 y hy)
theorem sortedS_pairwise {l : List Str} (h : sortedS l = true) : l.Pairwise fun x y => leS x y = true:=by
 cases l with
 | nil => exact .nil
 | cons x r => exact rising_pairwise r x h
theorem preSum_take (ps : List (Int × Tok)) : ∀ k,preSum (numAt ps.toArray) k = ((ps.map (·.1)).take k).sum
 | 0 => rfl
 | k + 1 => by
  rw [preSum,preSum_take ps k]
  have key : ∀ (l : List Int) (k : Nat),(l.take (k + 1)).sum = (l.take k).sum + (l[k]?).getD 0:=by
   intro l
   induction l with
   | nil => intro k;simp
   | cons a r ih =>
    intro k
    cases k with
    | zero => simp
    | succ k => simp only [List.take_succ_cons,List.sum_cons,List.getElem?_cons_succ];rw [ih k];omega
  rw [key]
  congr 1
  simp [numAt]
set_option tactic.hygienic true in
theorem argBest_min (val : Nat → Int) : ∀ k,argBest (fun i j => decide (val i < val j)) k ≤ k ∧ ∀ j,j ≤ k → val (argBest (fun i j => decide (val i < val j)) k) ≤ val j
 | 0 => ⟨Nat.le_refl _,fun j hj => by
  have : j = 0:=by omega
  subst this
  exact Int.le_refl _⟩
 | k + 1 => by
  have ih:=argBest_min val k
  unfold argBest
  split
  ·rename_i hb
   have hb' : val (k + 1) < val (argBest (fun i j => decide (val i < val j)) k):=by simpa using hb
   refine ⟨Nat.le_refl _,fun j hj => ?_⟩
   by_cases hjk : j = k + 1
   ·subst hjk;exact Int.le_refl _
   ·have:=ih.2 j (by omega);omega
  ·rename_i hb
   have hb' : ¬ val (k + 1) < val (argBest (fun i j => decide (val i < val j)) k):=by simpa using hb
   refine ⟨by omega,fun j hj => ?_⟩
   by_cases hjk : j = k + 1
   ·subst hjk;omega
   ·exact ih.2 j (by omega)
theorem argBest_max (val : Nat → Int) (k : Nat) : argBest (fun i j => decide (val i > val j)) k ≤ k ∧ ∀ j,j ≤ k → val j ≤ val (argBest (fun i j => decide (val i > val j)) k):=by
 have e : (fun i j => decide (val i > val j)) = fun i j => decide (-val i < -val j):=by
  funext i j
  rw [decide_eq_decide]
  omega
 rw [e]
 have:=argBest_min (fun i => -val i) k
 exact ⟨this.1,fun j hj => by have:=this.2 j hj;omega⟩
noncomputable def bltOf (f : String) : Value:=if f = "str" ∨ f = "int" ∨ f = "list" ∨ f = "range" ∨ f = "enumerate" then .type f else .builtin f
section
variable {prog : Program} {w : World} {A : Around} {O : Addr → Prop} {E : Value → Shared → Prop} {s : Shared}
theorem log2_small {a : Int} (h : a.natAbs < 4611686018427387904) : a.natAbs.log2 < 1920:=by
 have : a.natAbs.log2 < 62:=by
  rcases Nat.eq_zero_or_pos a.natAbs with h0 | h0
  ·rw [h0];decide
  ·exact (Nat.log2_lt (by omega)).mpr (by omega)
 omega
variable {v : Value} {d r : PyData} (rv : Rep prog w O s.heap v d) {Q : Value → Shared → Prop} (h : ∀ v s',Post prog w O s s' v r → Q v s')
include rv h
theorem len_ruleD (hd : lenD d = some r) : wpAny (model prog w) A (call (.builtin "len") [v]) Q E s:=by
 rcases orD_inv hd with hd | hd
 ·refine asList_rule rv hd fun xs a vs ζ l rs e => ?_
  obtain ⟨hb,e⟩:=ite_inv e
  obtain rfl:=Option.some.inj e
  unfold lim at hb
  refine PyProof.Rows.len_list l.isList (by rw [List.size_toArray,rs.length];omega) (h _ _ ?_)
  rw [List.size_toArray,rs.length]
  exact post_same (.int _ _)
 ·refine asStr_rule rv hd fun x t e => ?_
  obtain ⟨hb,e⟩:=ite_inv e
  obtain rfl:=Option.some.inj e
  unfold lim at hb
  exact len_str (by omega) (h _ _ (post_same (.int _ _)))
theorem sum_ruleD (hh : A.handled = none) (hd : sumD d = some r) : wpAny (model prog w) A (call (.builtin "sum") [v]) Q E s:=by
 refine asList_rule rv hd fun xs a vs ζ l rs e => ?_
 obtain ⟨ns,h1,rfl⟩:=oMp e
 obtain ⟨ps,rfl,e2⟩:=rs.ints h1
 have hl : s.heap.IsList a (intItems ps.toArray):=by
  have:=l.isList
  rwa [show intItems ps.toArray = (ps.map fun p => Value.int p.1 p.2).toArray by simp [intItems]]
 refine sum_intListG hh hl fun h' tk t' k => h _ _ ⟨h',tk,rfl,.of k,?_⟩
 rw [preSum_take,← e2,List.take_of_length_le (by simp)]
 exact .int _ _
theorem sorted_ruleD (old : Old O s.heap) (hd : sortedD d = some r) : wpAny (model prog w) A (call (.builtin "sorted") [v]) Q E s:=by
 refine asList_rule rv hd fun xs a vs ζ l rs e => ?_
 obtain ⟨hb,e⟩:=ite_inv e
 obtain ⟨ss,h1,rfl⟩:=oMp e
 refine sorted_strs l.isList (rs.strs h1) (by rw [rs.length];omega) fun out ss' a1 a2 a3 => ?_
 obtain ⟨e,he⟩:=sortedAll_at s.heap vs out
 rw [show sortT ss = ss' from (sorted_unique (sortedS_pairwise a3) (sortT_sorted _) (a2.trans (sortT_perm ss).symm)).symm] at h
 refine h _ _ ⟨_,s.toks,rfl,.of fun b o hb => sortedAll_old hb,.list (old.not (Option.eq_none_iff_forall_ne_some.mpr fun o e' => absurd (Heap.lt_size e') (Nat.not_lt.mpr (Nat.le_succ _)))) ⟨e,he.trans ?_⟩ (StrsAre.rep a1)⟩
 simp [seqObj]
theorem min_ruleD (hh : A.handled = none) (hd : minD d = some r) : wpAny (model prog w) A (call (.builtin "min") [v]) Q E s:=by
 refine asList_rule rv hd fun xs a vs ζ l rs e => ?_
 obtain ⟨ns,h1,h2⟩:=bMp e
 obtain ⟨m,h3,rfl⟩:=oMp h2
 obtain ⟨ps,rfl,e2⟩:=rs.ints h1
 have hl : s.heap.IsList a (intItems ps.toArray):=by
  have:=l.isList
  rwa [show intItems ps.toArray = (ps.map fun p => Value.int p.1 p.2).toArray by simp [intItems]]
 clear e l rs h1 h2 rv
 have hne : 0 < ps.length:=by
  cases ps with
  | nil => subst e2;cases h3
  | cons => simp
 refine min_intList hh hl hne fun v h' tk hv k => ?_
 have hb:=argBest_min (numAt ps.toArray) (ps.toArray.size - 1)
 generalize argBest (fun i j => decide (numAt ps.toArray i < numAt ps.toArray j)) (ps.toArray.size - 1) = j at hv hb
 have hsz : ps.toArray.size = ps.length:=List.size_toArray ..
 rw [hsz] at hb
 have hjlt : j < ps.length:=by have:=hb.1;omega
 have hv' : .int ps[j].1 ps[j].2 = v:=by simpa [intItems,List.getElem?_eq_getElem hjlt] using hv
 have hnum : ∀ i (hi : i < ps.length),numAt ps.toArray i = ps[i].1:=fun i hi => by simp [numAt,List.getElem?_eq_getElem hi]
 have hm:=List.min?_eq_some_iff.mp h3
 have hmj : ps[j].1 = m:=by
  have h2:=hm.2 _ (e2 ▸ lMr ⟨_,List.getElem_mem hjlt,rfl⟩ : ps[j].1 ∈ ns)
  obtain ⟨p,hp,hpm⟩:=lMp (e2 ▸ hm.1)
  obtain ⟨i,hi,rfl⟩:=List.mem_iff_getElem.mp hp
  have h3:=hb.2 i (by omega)
  rw [hnum j hjlt,hnum i hi] at h3
  omega
 refine h _ _ ⟨h',tk,rfl,.of k,?_⟩
 rw [← hv',hmj]
 exact .int _ _
theorem max_ruleD (hh : A.handled = none) (hd : maxD d = some r) : wpAny (model prog w) A (call (.builtin "max") [v]) Q E s:=by
 obtain ⟨xs,hx,h2⟩:=bMp hd
 obtain ⟨ns,h1,h2⟩:=bMp h2
 obtain ⟨m,h3,rfl⟩:=oMp h2
 rw [asTuple_inv hx] at rv
 obtain ⟨a,vs,rfl,-,l,rs⟩:=rv.is
 obtain ⟨ps,rfl,e2⟩:=rs.ints h1
 have hl : s.heap.IsTuple a (intItems ps.toArray):=by
  have:=l.isTuple
  rwa [show intItems ps.toArray = (ps.map fun p => Value.int p.1 p.2).toArray by simp [intItems]]
 clear hd hx h2 rs h1 rv
 have hne : 0 < ps.length:=by
  cases ps with
  | nil => subst e2;cases h3
  | cons => simp
 have hlt : a < s.heap.objs.size:=by obtain ⟨_,e⟩:=l;exact Heap.lt_size e
 refine call_max_walk (wpAny_pyIter_tuple hl ?_)
 refine ⟨_,[s.heap.objs.size,a],[s.heap.objs.size],_,_,_,_,rfl,Walks.tuple (A:=A.in1) hh _ a (Nat.ne_of_lt hlt) (intItems ps.toArray),⟨⟨_,Heap.get?_push_size _ rfl,rfl,rfl⟩,hl.push _⟩,fun b hb => ?_,by simpa [intItems] using hne,
  CmpOf.ints_gt (numAt ps.toArray) (fun ζ ζ => intItems_at),fun v h' tk hv hk => ?_⟩
 ·show b < (s.heap.push _).objs.size
  rw [Heap.size_push]
  rcases cMp hb with rfl | hb
  ·exact Nat.lt_succ_self _
  ·exact sMp hb ▸ Nat.lt_succ_of_lt hlt
 have k : ∀ b o,s.heap.get? b = some o → h'.get? b = some o:=fun b o e => hk b o (fun hm => absurd (sMp hm ▸ Heap.lt_size e) (Nat.lt_irrefl _)) (Heap.get?_push_of_some _ e)
 have hsz : (intItems ps.toArray).size = ps.length:=by simp [intItems]
 rw [hsz] at hv
 have hb:=argBest_max (numAt ps.toArray) (ps.length - 1)
 generalize argBest (fun i j => decide (numAt ps.toArray i > numAt ps.toArray j)) (ps.length - 1) = j at hv hb
 have hjlt : j < ps.length:=by have:=hb.1;omega
 have hv' : .int ps[j].1 ps[j].2 = v:=by simpa [intItems,List.getElem?_eq_getElem hjlt] using hv
 have hnum : ∀ i (hi : i < ps.length),numAt ps.toArray i = ps[i].1:=fun i hi => by simp [numAt,List.getElem?_eq_getElem hi]
 have hm:=List.max?_eq_some_iff.mp h3
 have hmj : ps[j].1 = m:=by
  have h2:=hm.2 _ (e2 ▸ lMr ⟨_,List.getElem_mem hjlt,rfl⟩ : ps[j].1 ∈ ns)
  obtain ⟨p,hp,hpm⟩:=lMp (e2 ▸ hm.1)
  obtain ⟨i,hi,rfl⟩:=List.mem_iff_getElem.mp hp
  have h3:=hb.2 i (by omega)
  rw [hnum j hjlt,hnum i hi] at h3
  omega
 refine h _ _ ⟨h',tk,rfl,.of k,?_⟩
 rw [← hv',hmj]
 exact .int _ _
theorem copy_ruleD (old : Old O s.heap) (hd : copyD d = some r) : wpAny (model prog w) A (call (.type "list") [v]) Q E s:=by
 refine asList_rule rv hd fun xs a vs ζ l rs e => ?_
 obtain ⟨hb,e⟩:=ite_inv e
 obtain rfl:=Option.some.inj e
 obtain ⟨o,ho,hc,n,hd⟩:=l.isList
 refine call_list_seq (hsz:=by rw [sizeLine_eq,List.size_toArray,rs.length];unfold lim at hb;omega) a (.inl rfl) ho hc hd fun h' c' hk hD => h _ _ ⟨h',s.toks,rfl,.of hk,.list (old.not (fresh_size _)) ⟨c',hD⟩ (rs.keep (.of hk))⟩
theorem str_ruleD (hd : strD d = some r) : wpAny (model prog w) A (call (.type "str") [v]) Q E s:=by
 refine asInt_rule rv hd fun a t e => ?_
 obtain ⟨hb,e⟩:=ite_inv e
 obtain rfl:=Option.some.inj e
 exact P.str_of_int (log2_small hb) (h _ _ (post_same (.str _ _)))
theorem int_ruleD (hd : intD d = some r) : wpAny (model prog w) A (call (.type "int") [v]) Q E s:=by
 refine asStr_rule rv hd fun x t e => ?_
 obtain ⟨hb,e⟩:=ite_inv e
 obtain ⟨n,h1,rfl⟩:=oMp e
 exact KIN.call_text h1 hb (h _ _ (post_same (.int _ _)))
set_option tactic.hygienic true in
theorem builtin1_rule (hh : A.handled = none) (old : Old O s.heap) {f : String} (hd : builtin1 f d = some r) : wpAny (model prog w) A (call (bltOf f) [v]) Q E s:=by
 unfold builtin1 at hd
 split at hd
 ·rename_i hf;subst hf;exact len_ruleD rv h hd
 split at hd
 ·rename_i hf;subst hf;exact sum_ruleD rv h hh hd
 split at hd
 ·rename_i hf;subst hf;exact sorted_ruleD rv h old hd
 split at hd
 ·rename_i hf;subst hf;exact min_ruleD rv h hh hd
 split at hd
 ·rename_i hf;subst hf;exact str_ruleD rv h hd
 split at hd
 ·rename_i hf;subst hf;exact int_ruleD rv h hd
 split at hd
 ·rename_i hf;subst hf;exact max_ruleD rv h hh hd
 split at hd
 ·rename_i hf;subst hf;exact copy_ruleD rv h old hd
 ·cases hd
end
end
section
open PySem.Builtin.Str (partsBetween occurrences)
variable [bs : Base]
noncomputable def one (f : PyData → PyData → Option PyData) (d : PyData) : List PyData → Option PyData
 | [a] => f d a
 | _ => none
noncomputable def splitD : PyData → PyData → Option PyData:=str2 fun x y => if y.length ≠ 0 ∧ x.length ≤ lim then some (.list ((Txt.split x y).map .str)) else none
noncomputable def findD (d : PyData) : List PyData → Option PyData
 | [a] => str2 (fun x y => some (.int (Txt.find x y))) d a
 | [a,b] => (asInt b).bind fun i => str2 (fun x y => some (.int (Txt.find3 x y i))) d a
 | _ => none
noncomputable def joinD (d e : PyData) : Option PyData:=(asStr d).bind fun x => (asList e).bind fun ys => (strsOf ys).bind fun ss => if (ss.map (·.length)).sum + ss.length * x.length ≤ lim then some (.str (Txt.join x ss)) else none
noncomputable def indexD (d e : PyData) : Option PyData:=(asStr e).bind fun k => (asList d).bind fun xs => (strsOf xs).bind fun ss => if k ∈ ss ∧ xs.length ≤ lim then some (.int (ss.idxOf k : Nat)) else none
noncomputable def countD (d e : PyData) : Option PyData:=(asStr e).bind fun k => (asList d).bind fun xs => (strsOf xs).map fun ss => .int (PySem.Spec.countIn (.str k) (ss.map PyData.str))
noncomputable def method (name : Str) (d : PyData) (args : List PyData) : Option PyData :=
 if name = Str.ofString "split" then one splitD d args else if name = Str.ofString "find" then findD d args else if name = Str.ofString "join" then one joinD d args
 else if name = Str.ofString "index" then one indexD d args else if name = Str.ofString "count" then one countD d args else none
section
variable {prog : Program} {w : World} {A : Around} {O : Addr → Prop} {E : Value → Shared → Prop} {s : Shared}
theorem split_rule (old : Old O s.heap) {x y : Str} {t u : Tok} (hy : y.length ≠ 0) (hx : x.length ≤ 1048576) {Q : Value → Shared → Prop}
  (h : ∀ v s',Post prog w O s s' v (.list ((Txt.split x y).map .str)) → (∃ a,v = .ref a ∧ s.heap.get? a = none) → Q v s') : wpAny (model prog w) A (call (.builtin "str.split") [.str x t,.str y u]) Q E s:=by
 have hy' : (y.length == 0) = false:=by simpa using hy
 have fin : ∀ (l : List (Str × Tok)) (k : Nat),l.map (·.1) = Txt.split x y → Q (.ref s.heap.objs.size) { s with heap:=s.heap.push { cls:=.type "list",data:=.seq (strValues l).toArray },toks:=k }:=fun l k e => by
  refine h _ _ ⟨_,k,rfl,Keep.push _ _,?_⟩ ⟨_,rfl,fresh_size _⟩
  rw [← e]
  exact .list (old.not (fresh_size _)) ⟨0,Heap.get?_push_size _ rfl⟩ (strValues_rep l)
 have hn : (partsBetween x (occurrences x y 0 x.length (x.length + 1)) y.length).length ≤ sizeLine:=by
  have e1:=StrLaws.occ_length_le x y 0 x.length (x.length + 1)
  rw [length_partsBetween,sizeLine_eq];omega
 cases h1 : (decide (x.length < y.length) || decide (Builtin.Str.strKind x < Builtin.Str.strKind y))
 ·cases hf : (occurrences x y 0 x.length (x.length + 1)).isEmpty
  ·refine call_meets F.slot_str_split (typeIs_str _ _ _) F.entry_str_split (F.args_str_split_2 _ _) (meets_str_split_sep x y t u h1 hy' hf (by rw [sizeLine_eq];omega) hn) ?_
   show wants Q E _ { s with toks:=_,heap:=s.heap.push { cls:=.type "list",data:=.seq (strsFrom s.toks (partsBetween x (occurrences x y 0 x.length (x.length + 1)) y.length)).toArray } }
   rw [strsFrom_eq]
   exact fin (numbered s.toks _) _ ((numbered_texts _ _).trans ((if_neg (ne_true_of_eq_false h1)).trans (if_neg (ne_true_of_eq_false hf))).symm)
  ·exact call_meets F.slot_str_split (typeIs_str _ _ _) F.entry_str_split (F.args_str_split_2 _ _) (meets_str_split_not_found x y t u h1 hy' hf)
    (fin [(x,t)] s.toks ((if_neg (ne_true_of_eq_false h1)).trans (if_pos hf)).symm)
 ·exact call_meets F.slot_str_split (typeIs_str _ _ _) F.entry_str_split (F.args_str_split_2 _ _) (meets_str_split_cannot_occur x y t u h1)
   (fin [(x,t)] s.toks (if_pos h1).symm)
theorem index_rule {l : Addr} {vs : List Value} {ss : List Str} {k : Str} {t : Tok} (hl : PL s.heap l vs) (hS : StrsAre vs ss) (hk : k ∈ ss) (hlim : vs.length ≤ 1048576) {Q : Value → Shared → Prop}
  (h : ∀ tk tk',Q (.int (ss.idxOf k : Nat) tk) { s with toks:=tk' }) : wpAny (model prog w) A (call (.builtin "list.index") [.ref l,.str k t]) Q E s:=by
 obtain ⟨n,ho⟩:=hl
 have hlen : vs.length = ss.length:=by
  clear hk ho hlim h
  induction hS with
  | nil => rfl
  | cons y t _ ih => simp [ih]
 have hj : ss.idxOf k < ss.length:=List.idxOf_lt_length_iff.mpr hk
 have at' : ∀ {vs : List Value} {ss : List Str},StrsAre vs ss → ∀ i (h1 : i < vs.length) (h2 : i < ss.length),∃ t,vs[i] = .str ss[i] t:=by
  intro vs ss hS
  induction hS with
  | nil => intro i h1;simp at h1
  | cons y t _ ih =>
   intro i h1 h2
   cases i with
   | zero => exact ⟨t,rfl⟩
   | succ i => simpa using ih i (by simpa using h1) (by simpa using h2)
 let e : Value → Bool:=fun v => match v with | .str y _ => y == k | _ => false
 refine call_meets PySem.F.slot_list_index ⟨_,ho,rfl⟩ PySem.F.entry_list_index (PySem.F.args_list_index_2 _ _)
  (SeqAt.list_indexAt l vs.toArray n none #[] (.str k t) e (ss.idxOf k) (by simp;omega) (by omega) ?_ ?_) ⟨ho,fun y hy => ?_,h _ _⟩
 ·obtain ⟨t',e'⟩:=at' hS (ss.idxOf k) (by omega) hj
  simp only [List.getElem_toArray,e',e]
  simpa using List.getElem_idxOf hj
 ·intro m hm hlt
  have hm' : m < vs.length:=by simpa using hm
  obtain ⟨t',e'⟩:=at' hS m hm' (by omega)
  simp only [List.getElem_toArray,e',e]
  have:=List.not_of_lt_findIdx (p:=(· == k)) (xs:=ss) hlt
  simpa using this
 ·have : ∃ z u,y = .str z u:=by
   have hy' : y ∈ vs:=by simpa using hy
   obtain ⟨i,hi,rfl⟩:=List.mem_iff_getElem.mp hy'
   obtain ⟨t',e'⟩:=at' hS i hi (by omega)
   exact ⟨_,_,e'⟩
  obtain ⟨z,u,rfl⟩:=this
  exact SeqAt.EqAt.str_str z u k t
noncomputable def MethR (prog : Program) (w : World) (O : Addr → Prop) (s₀ : Shared) (name : Str) (ov : Value) (ds : List PyData) (r : PyData) : Prop :=
 ∃ (T id : String),PlainAttrs T ∧ Slot T name id ∧ typeOf (.builtin id) = pure (.type "method_descriptor") ∧ s₀.TypeIs ov T ∧ (∀ a,ov = .ref a → ∃ ob,s₀.heap.get? a = some ob ∧ ob.dict = none) ∧
  ∀ (A : Around) (s : Shared) (vs : List Value) (Q : Value → Shared → Prop) (E : Value → Shared → Prop),Old O s.heap → Keep s₀.heap s.heap → RepAll prog w O s.heap vs ds → (∀ v s',Post prog w O s s' v r → Q v s') → wpAny (model prog w) A (call (.builtin id) ([ov] ++ vs)) Q E s
theorem one_inv {f : PyData → PyData → Option PyData} {d r : PyData} {ds : List PyData} (h : one f d ds = some r) : ∃ a,ds = [a] ∧ f d a = some r:=by
 match ds,h with
 | [a],h => exact ⟨a,rfl,h⟩
section
variable {ov : Value} {d e r : PyData} {s₀ : Shared} (ro : Rep prog w O s₀.heap ov d)
include ro
theorem split_meth (hd : splitD d e = some r) : MethR prog w O s₀ (Str.ofString "split") ov [e] r:=by
 obtain ⟨x,y,hx,hy,q⟩:=two_inv hd
 rw [asStr_inv hx] at ro
 rw [asStr_inv hy]
 obtain ⟨hb,q⟩:=ite_inv q
 obtain rfl:=Option.some.inj q
 refine ro.strE fun t => ⟨"str","str.split",F.plainAttrs_str,F.slot_str_split,F.type_str_split,typeIs_str _ _ _,(fun ζ e => nomatch e),fun A s vs Q E old k rs h => ?_⟩
 exact rs.oneE fun u r => r.strE fun t => split_rule old hb.1 hb.2 fun v s' p ζ => h v s' p
theorem find_meth {es : List PyData} (hd : findD d es = some r) : MethR prog w O s₀ (Str.ofString "find") ov es r:=by
 have key : ∀ {x y : Str},asStr d = some x → (∀ A s vs Q E t,Old O s.heap → Keep s₀.heap s.heap → RepAll prog w O s.heap vs es → (∀ v s',Post prog w O s s' v r → Q v s') → wpAny (model prog w) A (call (.builtin "str.find") ([.str x t] ++ vs)) Q E s) → MethR prog w O s₀ (Str.ofString "find") ov es r:=fun hx k => by
  rw [asStr_inv hx] at ro
  exact ro.strE fun t => ⟨"str","str.find",F.plainAttrs_str,F.slot_str_find,F.type_str_find,typeIs_str _ _ _,(fun ζ e => nomatch e),fun A s vs Q E => k A s vs Q E t⟩
 match es,hd with
 | [a],hd =>
  obtain ⟨x,y,hx,hy,q⟩:=two_inv hd
  refine key (y:=y) hx fun A s vs Q E t old k rs h => rs.oneE fun u r => ?_
  rw [asStr_inv hy] at r
  exact r.strE fun t => SC.find (h _ _ (Option.some.inj q ▸ post_same (.int _ _)))
 | [a,b],hd =>
  obtain ⟨i,hi,hd⟩:=bMp hd
  obtain ⟨x,y,hx,hy,q⟩:=two_inv hd
  refine key (y:=y) hx fun A s vs Q E t old k rs h => rs.consE fun u us r rs => rs.oneE fun u' r' => ?_
  rw [asStr_inv hy] at r
  rw [asInt_inv hi] at r'
  exact r.strE fun t => r'.intE fun t' => SC.find3 (h _ _ (Option.some.inj q ▸ post_same (.int _ _)))
theorem join_meth (hd : joinD d e = some r) : MethR prog w O s₀ (Str.ofString "join") ov [e] r:=by
 refine asStr_rule ro hd fun x t q => ⟨"str","str.join",F.plainAttrs_str,F.slot_str_join,F.type_str_join,typeIs_str _ _ _,(fun ζ e => nomatch e),fun A s vs Q E old k rs h => rs.oneE fun u r => asList_rule r q fun ys a us ζ l rl q => ?_⟩
 obtain ⟨ss,h1,h2⟩:=bMp q
 obtain ⟨hb,h2⟩:=ite_inv h2
 exact PyProof.Rows.join_list l.isList (by simpa using rl.strs h1) (by unfold lim at hb;omega) fun t' k => h _ _ (Option.some.inj h2 ▸ post_same (.str _ _))
theorem list_meth {id : String} {name : Str} {k : Str} {f : List PyData → Option PyData} (he : e = .str k) (h1 : Slot "list" name id) (h2 : typeOf (.builtin id) = pure (.type "method_descriptor")) (hd : (asList d).bind f = some r)
  (hk : ∀ A s xs a us t Q E,f xs = some r → PL s.heap a us → RepAll prog w O s.heap us xs → (∀ v s',Post prog w O s s' v r → Q v s') → wpAny (model prog w) A (call (.builtin id) [.ref a,.str k t]) Q E s) : MethR prog w O s₀ name ov [e] r:=by
 subst he
 exact asList_rule ro hd fun xs a us ζ l rl q => ⟨"list",id,F.plainAttrs_list,h1,h2,l.isList.typeIs,(fun b e => by cases e;obtain ⟨n,ho⟩:=l;exact ⟨_,ho,rfl⟩),fun A s vs Q E old kp rs h =>
  rs.oneE fun u r => r.strE fun t => hk A s xs a us t Q E q (l.keepK kp) (rl.keep kp) h⟩
theorem index_meth (hd : indexD d e = some r) : MethR prog w O s₀ (Str.ofString "index") ov [e] r:=by
 obtain ⟨k,hk,hd⟩:=bMp hd
 refine list_meth ro (asStr_inv hk) F.slot_list_index F.type_list_index hd fun A s xs a us t Q E q l rl h => ?_
 obtain ⟨ss,h1,h2⟩:=bMp q
 obtain ⟨hb,h2⟩:=ite_inv h2
 exact index_rule l (rl.strs h1) hb.1 (by rw [rl.length];exact hb.2) fun tk tk' => h _ _ (Option.some.inj h2 ▸ post_same (.int _ _))
theorem count_meth (hd : countD d e = some r) : MethR prog w O s₀ (Str.ofString "count") ov [e] r:=by
 obtain ⟨k,hk,hd⟩:=bMp hd
 refine list_meth ro (asStr_inv hk) F.slot_list_count F.type_list_count hd fun A s xs a us t Q E q l rl h => ?_
 obtain ⟨ss,h1,rfl⟩:=oMp q
 exact count_list_strs l.isList (rl.strs h1) (h _ _ (post_same (.int _ _)))
set_option tactic.hygienic true in
theorem method_rule {name : Str} {ds : List PyData} (hd : method name d ds = some r) : MethR prog w O s₀ name ov ds r:=by
 unfold method at hd
 split at hd
 ·rename_i hn;obtain ⟨a,rfl,hd⟩:=one_inv hd;exact hn ▸ split_meth ro hd
 split at hd
 ·rename_i hn;exact hn ▸ find_meth ro hd
 split at hd
 ·rename_i hn;obtain ⟨a,rfl,hd⟩:=one_inv hd;exact hn ▸ join_meth ro hd
 split at hd
 ·rename_i hn;obtain ⟨a,rfl,hd⟩:=one_inv hd;exact hn ▸ index_meth ro hd
 split at hd
 ·rename_i hn;obtain ⟨a,rfl,hd⟩:=one_inv hd;exact hn ▸ count_meth ro hd
 ·cases hd
end
end
end
section
structure Ex where
 cls : Str
 word : Str
noncomputable abbrev Rs (α : Type):=Option (Except Ex α)
namespace Rs
noncomputable def bind {α β : Type} (m : Rs α) (f : α → Rs β) : Rs β :=
 match m with
 | none => none
 | some (.error x) => some (.error x)
 | some (.ok a) => f a
noncomputable def ok {α : Type} (a : α) : Rs α:=some (.ok a)
noncomputable def up {α : Type} (m : Option α) : Rs α:=m.map .ok
end Rs
structure Fn where
 params : List Str
 body : List Stmt
 names : Names
 own : Option Str
structure Tab where
 fns : List (Str × Fn)
 orc : List (Str × (List PyData → Rs PyData))
 glob : List (Str × PyData)
 excs : List Str
inductive Out where
 | next | brk
 | ret (d : PyData)
structure St where
 ρ : Vars
 own : Option (Str × List PyData)
structure Evs where
 still : Bool
 ex : Names → Vars → Expr → Option PyData
 tr : Names → Vars → Expr → Option Bool
 ss : Names → Option Str → St → List Stmt → Rs (Out × St)
 fn : Str → List PyData → Rs PyData
noncomputable def bottom : Evs where
 still:=false
 ex:=fun ζ ζ ζ => none
 tr:=fun ζ ζ ζ => none
 ss:=fun ζ ζ ζ ζ => none
 fn:=fun ζ ζ => none
noncomputable def setV : Vars → Str → PyData → Vars
 | [],x,d => [(x,d)]
 | (y,e) :: r,x,d => if x = y then (x,d) :: r else (y,e) :: setV r x d
noncomputable def isVar (k : Option NameKind) : Bool:=match k with | some .local => true | some .cell => true | some .free => true | _ => false
noncomputable def isOwn (k : Option NameKind) : Bool:=match k with | some .local => true | some .cell => true | _ => false
noncomputable def blts : List (Str × String):=["len","sum","sorted","min","str","int","range","enumerate","isinstance","list","max","iter","next"].map fun x => (Str.ofString x,x)
noncomputable def isStar (e : Expr) : Bool:=e.ctorIdx == 22
noncomputable def isSet (e : Expr) : Bool:=e.ctorIdx == 7
noncomputable def okBase (e : Expr) : Bool:=if h : e.ctorIdx = 16 then Expr.Call.elim (motive_1:=fun ζ => Bool) e h fun ζ as ks ζ => !(as.isEmpty && ks.isEmpty) else true
noncomputable def nameOf (e : Expr) : Option Str:=if h : e.ctorIdx = 23 then Expr.Name.elim (motive_1:=fun ζ => Option Str) e h fun x ζ => some x else none
noncomputable def tupOf (e : Expr) : Option (List Expr):=if h : e.ctorIdx = 25 then Expr.Tuple.elim (motive_1:=fun ζ => Option (List Expr)) e h fun es ζ ζ => some es else none
noncomputable def strOf (e : Expr) : Option Str:=if h : e.ctorIdx = 19 then Expr.Constant.elim (motive_1:=fun ζ => Option Str) e h fun c ζ ζ => (match c with | .str x => some x | _ => none) else none
noncomputable def strTwo : List Expr → Option (Str × Str)
 | [a,b] => (strOf a).bind fun x => (strOf b).map fun y => (x,y)
 | _ => none
noncomputable def bindT.bindAll (sc : Names) : List Expr → List PyData → Vars → Option Vars
 | [],[],ρ => some ρ
 | e :: es,d :: ds,ρ => (nameOf e).bind fun x => if isOwn (sc.lookup x) = true then bindAll sc es ds (setV ρ x d) else none
 | _,_,_ => none
noncomputable def bindT (sc : Names) (t : Expr) (d : PyData) (ρ : Vars) : Option Vars:=match nameOf t with
 | some x => if isOwn (sc.lookup x) = true then some (setV ρ x d) else none
 | none => (tupOf t).bind fun es => (asTuple d).bind fun ds => if es.length = ds.length then bindT.bindAll sc es ds ρ else none
noncomputable def namesT (t : Expr) : List Str:=match nameOf t with
 | some x => [x]
 | none => ((tupOf t).getD []).filterMap nameOf
noncomputable def offT (ow : Option Str) (t : Expr) : Bool:=match ow with
 | none => true
 | some x => !(namesT t).contains x
noncomputable def enumItems (ds : List PyData) : List PyData:=(List.range ds.length).zipWith (fun (i : Nat) d => .tuple [.int (i : Int),d]) ds
noncomputable def callV (e : Expr) : Option (Expr × List Expr × Pos):=if h : e.ctorIdx = 16 then Expr.Call.elim (motive_1:=fun ζ => Option (Expr × List Expr × Pos)) e h fun g as ks p => (if ks.isEmpty = true then some (g,as,p) else none) else none
noncomputable def callOf (e : Expr) : Option (Str × List Expr):=(callV e).bind fun c => (nameOf c.1).map fun x => (x,c.2.1)
noncomputable def bltArg (b : String) (sc : Names) (e : Expr) : Option Expr:=(callOf e).bind fun p => match p.2 with
 | [a] => if sc.lookup p.1 = some .globalImplicit ∧ blts.lookup p.1 = some b ∧ isStar a = false then some a else none
 | _ => none
noncomputable def enumArg : Names → Expr → Option Expr:=bltArg "enumerate"
section
variable (T : Tab) (r : Evs)
noncomputable def evList (sc : Names) (ρ : Vars) : List Expr → Option (List PyData)
 | [] => some []
 | e :: es => if isStar e = true then none else (r.ex sc ρ e).bind fun d => (evList sc ρ es).bind fun ds => some (d :: ds)
noncomputable def partE (sc : Names) (ρ : Vars) : Option Expr → Option (Option Int)
 | none => some none
 | some e => (r.ex sc ρ e).bind fun d => (asInt d).map some
noncomputable def iterE (sc : Names) (ρ : Vars) (e : Expr) : Option (List PyData):=if r.still = true then (if isSet e = true then none else (r.ex sc ρ e).bind asList) else match bltArg "range" sc e with
 | some a => (r.ex sc ρ a).bind fun d => (asInt d).bind fun n => if -1048576 ≤ n ∧ n ≤ 1048576 then some ((List.range n.toNat).map fun (i : Nat) => PyData.int (i : Int)) else none
 | none => if isSet e = true then none else (r.ex sc ρ e).bind itemsOf
noncomputable def testsE (sc : Names) (ρ : Vars) : List Expr → Option Bool
 | [] => some true
 | e :: es => (r.tr sc ρ e).bind fun b => if b = true then testsE sc ρ es else some false
noncomputable def clauseGo {β : Type} (sc : Names) (ρ : Vars) (target : Expr) (ifs : List Expr) (inner : Vars → β → Option β) : List PyData → β → Option β
 | [],acc => some acc
 | d :: ds,acc => (bindT sc target d ρ).bind fun ρ' => (testsE r sc ρ' ifs).bind fun b =>
   if b = true then (inner ρ' acc).bind fun acc' => clauseGo sc ρ target ifs inner ds acc' else clauseGo sc ρ target ifs inner ds acc
noncomputable def compGo {β : Type} (sc : Names) (emit : Vars → β → Option β) : List Comprehension → Comprehension → List PyData → Vars → β → Option β
 | [],g,ds,ρ,acc => if (namesT g.target).all (fun x => (ρ.lookup x).isNone) = true ∧ g.is_async = 0 then clauseGo r sc ρ g.target g.ifs emit ds acc else none
 | g' :: gs,g,ds,ρ,acc => if (namesT g.target).all (fun x => (ρ.lookup x).isNone) = true ∧ g.is_async = 0 then
   clauseGo r sc ρ g.target g.ifs (fun ρ' acc' => (iterE r sc ρ' g'.iter).bind fun ds' => compGo sc emit gs g' ds' ρ' acc') ds acc else none
noncomputable def okScope (sc : Names) (scope : Scope) : Bool :=
 scope.kind == .function && scope.names.all (fun p => scope.names.lookup p.1 == some p.2) &&
 scope.names.all (fun p => if p.2 == .free then (sc.lookup p.1 == some .cell || sc.lookup p.1 == some .free) else true) &&
 (scope.names.lookup (Str.ofString "__classdict__")).isNone && (scope.names.lookup (Str.ofString "__debug__")).isNone
noncomputable def keyIs (k : Str) (p : PyData × PyData) : Bool:=match p.1 with | .str y => y == k | _ => false
noncomputable def putD (acc : List (PyData × PyData)) (k : Str) (d : PyData) : List (PyData × PyData) :=
 if acc.any (keyIs k) = true then acc.map (fun p => if keyIs k p = true then (p.1,d) else p) else acc ++ [(.str k,d)]
noncomputable def compE (sc : Names) (ρ : Vars) : Expr → Option PyData
 | .ListComp elt (g :: gs) scope _ =>
  if okScope sc scope = true ∧ (g :: gs).all (fun g => g.is_async == 0 && !isSet g.iter && (!r.still || (nameOf g.target).isSome)) = true then
   (iterE r sc ρ g.iter).bind fun ds =>
    (compGo r scope.names (fun ρ' (acc : List PyData) => (r.ex scope.names ρ' elt).bind fun d => if acc.length ≤ 1048576 then some (acc ++ [d]) else none) gs g ds (ρ.filter fun p => scope.names.lookup p.1 == some .free) []).bind fun acc => some (.list acc)
  else none
 | .DictComp k v (g :: gs) scope _ =>
  if okScope sc scope = true ∧ (g :: gs).all (fun g => g.is_async == 0 && !isSet g.iter && (!r.still || (nameOf g.target).isSome)) = true then
   (iterE r sc ρ g.iter).bind fun ds =>
    (compGo r scope.names (fun ρ' (acc : List (PyData × PyData)) => (r.ex scope.names ρ' k).bind fun kd => (r.ex scope.names ρ' v).bind fun vd => (asStr kd).bind fun x => if acc.length ≤ 1048576 then some (putD acc x vd) else none) gs g ds (ρ.filter fun p => scope.names.lookup p.1 == some .free) []).bind fun acc => some (.dict acc)
  else none
 | _ => none
noncomputable def boolGo (sc : Names) (ρ : Vars) (op : BoolOp) : List Expr → Option PyData
 | [] => none
 | [e] => r.ex sc ρ e
 | e :: es => (r.ex sc ρ e).bind fun d => (truth d).bind fun b => match op,b with
   | .And,false | .Or,true => some d
   | _,_ => boolGo sc ρ op es
noncomputable def allGo (sc : Names) (ρ : Vars) (op : BoolOp) : List Expr → Option Bool
 | [] => some (op == .And)
 | e :: es => (r.tr sc ρ e).bind fun b => match op,b with
   | .And,false => some false
   | .Or,true => some true
   | _,_ => allGo sc ρ op es
noncomputable def constE : Const → Option PyData
 | .none => some .none
 | .bool b => some (.bool b)
 | .int i => some (.int i)
 | .str x => some (.str x)
 | _ => none
noncomputable def okR {α : Type} : Rs α → Option α
 | some (.ok a) => some a
 | _ => none
noncomputable def isListD : PyData → Option PyData
 | .list _ => some (.bool true)
 | .str _ => some (.bool false)
 | _ => none
noncomputable def oneOf {α : Type} : List α → Option α
 | [a] => some a
 | _ => none
noncomputable def intOf (e : Expr) : Option Int:=if h : e.ctorIdx = 19 then Expr.Constant.elim (motive_1:=fun ζ => Option Int) e h fun c ζ ζ => (match c with | .int i => some i | _ => none) else none
noncomputable def sliceOf (e : Expr) : Option (Option Expr × Option Expr × Option Expr):=if h : e.ctorIdx = 26 then Expr.Slice.elim (motive_1:=fun ζ => Option (Option Expr × Option Expr × Option Expr)) e h fun l u st ζ => some (l,u,st) else none
noncomputable def attrOf (e : Expr) : Option (Expr × Str × Pos):=if h : e.ctorIdx = 20 then Expr.Attribute.elim (motive_1:=fun ζ => Option (Expr × Str × Pos)) e h fun o m p => some (o,m,p) else none
structure ReplV where
 h : Str
 x : Str
 y : Str
 z : Str
noncomputable def replV (a b : Expr) : Option ReplV :=
 (strOf a).bind fun h => (callV b).bind fun c => (attrOf c.1).bind fun q => (strTwo c.2.1).bind fun p => (nameOf q.1).bind fun x =>
  if q.2.1 = Str.ofString "replace" ∧ (q.2.2.endLine == c.2.2.line) = true ∧ (p.1 == p.2) = false ∧ p.2.length ≤ 14 then some ⟨h,x,p.1,p.2⟩ else none
noncomputable def replE (sc : Names) (ρ : Vars) (op : Operator) (v : ReplV) : Option PyData :=
 if isVar (sc.lookup v.x) = true then ((ρ.lookup v.x).bind asStr).bind fun t => if t.length ≤ lim then binop op (.str v.h) (.str (Txt.replace t v.y v.z)) else none else none
noncomputable def callE (sc : Names) (ρ : Vars) (f : Str) (args : List Expr) : Option PyData :=
 if sc.lookup f = some .globalImplicit then
  match blts.lookup f with
  | some b => match args with
   | [a] => if isStar a = true then none else (r.ex sc ρ a).bind fun d => (builtin1 b d)
   | [a,c] => if b = "max" then (if isStar a = true ∨ isStar c = true then none else (r.ex sc ρ a).bind fun d => (r.ex sc ρ c).bind fun e => int2 (fun x y => some (.int (if y > x then y else x))) d e) else (nameOf c).bind fun c => if isStar a = true then none else if b = "isinstance" ∧ sc.lookup c = some .globalImplicit ∧ blts.lookup c = some "list" then (r.ex sc ρ a).bind isListD else none
   | _ => none
  | none => (evList r sc ρ args).bind fun ds => okR (r.fn f ds)
 else none
noncomputable def exE (sc : Names) (ρ : Vars) : Expr → Option PyData
 | .Constant c _ _ => constE c
 | .Name x _ => if isVar (sc.lookup x) = true then (ρ.lookup x) else if sc.lookup x = some .globalImplicit then (T.glob.lookup x) else none
 | .BinOp a op b _ => match replV a b with
  | some v => replE sc ρ op v
  | none => (r.ex sc ρ a).bind fun d1 => (r.ex sc ρ b).bind fun d2 => (binop op d1 d2)
 | .UnaryOp op e _ => match op with
  | .USub => (intOf e).map fun i => .int (-i)
  | .Not => (r.ex sc ρ e).bind fun d => (truth d).bind fun b => some (.bool !b)
  | _ => none
 | .Compare a ops bs _ => (oneOf ops).bind fun op => (oneOf bs).bind fun b => if isSet b = true then none else (r.ex sc ρ a).bind fun d1 => (r.ex sc ρ b).bind fun d2 => (cmpop op d1 d2).bind fun c => some (.bool c)
 | .BoolOp op es _ => boolGo r sc ρ op es
 | .IfExp c a b _ => (r.tr sc ρ c).bind fun t => if t = true then r.ex sc ρ a else r.ex sc ρ b
 | .List es _ => if es.length ≤ 1000 then (evList r sc ρ es).bind fun ds => some (.list ds) else none
 | .Tuple es _ _ => if es.length ≤ 1000 then (evList r sc ρ es).bind fun ds => some (.tuple ds) else none
 | .ListComp elt gens scope pos => compE r sc ρ (.ListComp elt gens scope pos)
 | .DictComp k v gens scope pos => compE r sc ρ (.DictComp k v gens scope pos)
 | .Subscript v i _ => match sliceOf i with
  | some p => (r.ex sc ρ v).bind fun d => (partE r sc ρ p.1).bind fun lo => (partE r sc ρ p.2.1).bind fun hi => (partE r sc ρ p.2.2).bind fun s => (slice d lo hi s)
  | none => (r.ex sc ρ v).bind fun d => (r.ex sc ρ i).bind fun k => (getitem d k)
 | .Call g args ks pos => if ks.isEmpty = true then (match nameOf g with
   | some f => callE r sc ρ f args
   | none => (attrOf g).bind fun p => if okBase p.1 = true ∧ (p.2.2.endLine == pos.line) = true ∧ args.length < 20 then (r.ex sc ρ p.1).bind fun d => (evList r sc ρ args).bind fun ds => (method p.2.1 d ds) else none) else none
 | _ => none
noncomputable def trE (sc : Names) (ρ : Vars) : Expr → Option Bool
 | .UnaryOp op e p => match op with
  | .Not => (r.tr sc ρ e).bind fun b => some !b
  | op => (r.ex sc ρ (.UnaryOp op e p)).bind truth
 | .BoolOp op es _ => allGo r sc ρ op es
 | .IfExp c a b _ => (r.tr sc ρ c).bind fun t => if t = true then r.tr sc ρ a else r.tr sc ρ b
 | .Compare a ops bs _ => (oneOf ops).bind fun op => (oneOf bs).bind fun b => if isSet b = true then none else (r.ex sc ρ a).bind fun d1 => (r.ex sc ρ b).bind fun d2 => (cmpop op d1 d2)
 | e => (r.ex sc ρ e).bind truth
noncomputable def scalar : PyData → Bool
 | .none => true
 | .bool _ => true
 | .int _ => true
 | .str _ => true
 | _ => false
noncomputable def vis (σ : St) : Vars:=match σ.own with | none => σ.ρ | some (x,ds) => (x,.list ds) :: σ.ρ
noncomputable def exO (sc : Names) (σ : St) (e : Expr) : Option PyData:=orD (r.ex sc σ.ρ e) ((r.ex sc (vis σ) e).bind fun d => if scalar d = true then some d else none)
noncomputable def trO (sc : Names) (σ : St) (e : Expr) : Option Bool:=orD (r.tr sc σ.ρ e) (r.tr sc (vis σ) e)
noncomputable def forGo (sc : Names) (ow : Option Str) (target : Expr) (body orelse : List Stmt) : List PyData → St → Option (Out × St)
 | [],σ => okR (r.ss sc ow σ orelse)
 | d :: ds,σ => (bindT sc target d σ.ρ).bind fun ρ' => (okR (r.ss sc ow { σ with ρ:=ρ' } body)).bind fun p => match p.1 with
   | .next => forGo sc ow target body orelse ds p.2
   | .brk => some (.next,p.2)
   | .ret d => some (.ret d,p.2)
noncomputable def whileGo (sc : Names) (ow : Option Str) (test : Expr) (body : List Stmt) : Nat → St → Option (Out × St)
 | 0,_ => none
 | k + 1,σ => (trO r sc σ test).bind fun b => if b = true then (okR (r.ss sc ow σ body)).bind fun p => (match p.1 with
   | .next => whileGo sc ow test body k p.2
   | .brk => some (.next,p.2)
   | .ret d => some (.ret d,p.2)) else some (.next,σ)
noncomputable def newForm : Expr → Bool
 | .List .. => true
 | .ListComp .. => true
 | .BinOp _ .Add _ _ => true
 | _ => false
noncomputable def isCompE (e : Expr) : Bool:=e.ctorIdx == 8 || e.ctorIdx == 10
noncomputable def subOf (e : Expr) : Option (Expr × Expr):=if h : e.ctorIdx = 21 then Expr.Subscript.elim (motive_1:=fun ζ => Option (Expr × Expr)) e h fun v i ζ => some (v,i) else none
noncomputable def asgE (sc : Names) (ow : Option Str) (σ : St) (x : Str) (e : Expr) : Option (Out × St) :=
 if isOwn (sc.lookup x) = true then
  (if ow = some x then (if newForm e = true ∧ σ.own = none ∧ (σ.ρ.lookup x).isNone = true then ((r.ex sc σ.ρ e).bind asList).map fun ds => (.next,{ σ with own:=some (x,ds) }) else none)
  else (exO r sc σ e).map fun d => (.next,{ σ with ρ:=setV σ.ρ x d }))
 else none
noncomputable def subAct (ds xs : List PyData) (j : Int) : Option (List PyData):=if xs.all scalar = true ∧ 0 ≤ j ∧ j < ds.length ∧ ds.length ≤ lim then some (ds.set j.toNat (.list xs)) else none
noncomputable def subE (sc : Names) (σ : St) (v i e : Expr) : Option (Out × St):=σ.own.bind fun p => if nameOf v = some p.1 ∧ newForm e = true ∧ isCompE e = false then
 (((r.ex sc (vis σ) e).bind asList).bind fun xs => ((r.ex sc σ.ρ i).bind asInt).bind (subAct p.2 xs)).map fun ds => (.next,{ σ with own:=some (p.1,ds) }) else none
noncomputable def tupE (sc : Names) (ow : Option Str) (σ : St) (t e : Expr) : Option (Out × St):=if offT ow t = true ∧ (nameOf e).isSome = true then (tupOf t).bind fun ζ => (r.ex sc σ.ρ e).bind fun d => (bindT sc t d σ.ρ).map fun ρ' => (.next,{ σ with ρ:=ρ' }) else none
structure MethV where
 o : Expr
 m : Str
 apos : Pos
 a : Expr
 cpos : Pos
noncomputable def methV (e : Expr) : Option MethV:=(callV e).bind fun c => (attrOf c.1).bind fun q => (oneOf c.2.1).map fun a => ⟨q.1,q.2.1,q.2.2,a,c.2.2⟩
noncomputable def ownAct (m : Str) (ds : List PyData) (d : PyData) : Option (List PyData) :=
 if m = Str.ofString "append" then (if ds.length < lim then some (ds ++ [d]) else none)
 else if m = Str.ofString "extend" then (asList d).bind fun xs => if ds.length + xs.length ≤ lim then some (ds ++ xs) else none
 else none
noncomputable def methE (sc : Names) (σ : St) (e : Expr) : Option (Out × St):=(methV e).bind fun v => σ.own.bind fun p =>
 if nameOf v.o = some p.1 ∧ (v.apos.endLine == v.cpos.line) = true ∧ isStar v.a = false then ((r.ex sc σ.ρ v.a).bind (ownAct v.m p.2)).map fun ds => (.next,{ σ with own:=some (p.1,ds) }) else none
noncomputable def forE (sc : Names) (ow : Option Str) (σ : St) (target iter : Expr) (body orelse : List Stmt) : Option (Out × St):=if offT ow target = true then (match enumArg sc iter with
  | some a => (tupOf target).bind fun ζ => ((r.ex sc σ.ρ a).bind asTuple).bind fun ds => forGo r sc ow target body orelse (enumItems ds) σ
  | none => (iterE r sc σ.ρ iter).bind fun ds => forGo r sc ow target body orelse ds σ) else none
noncomputable def retE (sc : Names) (σ : St) (e : Expr) : Option (Out × St):=orD (σ.own.bind fun p => if nameOf e = some p.1 then some (.ret (.list p.2),σ) else none) ((exO r sc σ e).map fun d => (.ret d,σ))
noncomputable def raiseE (sc : Names) (σ : St) (e : Expr) : Option Ex:=(callOf e).bind fun c => (oneOf c.2).bind fun a =>
 if sc.lookup c.1 = some .globalImplicit ∧ c.1 ∈ T.excs ∧ isStar a = false then ((r.ex sc σ.ρ a).bind asStr).map fun x => ⟨c.1,x⟩ else none
noncomputable def stmtE (sc : Names) (ow : Option Str) (σ : St) : Stmt → Rs (Out × St)
 | .Assign ts e _ => Rs.up ((oneOf ts).bind fun t => match nameOf t with
  | some x => asgE r sc ow σ x e
  | none => match subOf t with
   | some p => subE r sc σ p.1 p.2 e
   | none => tupE r sc ow σ t e)
 | .Expr e _ => Rs.up (methE r sc σ e)
 | .If c a b _ => (Rs.up (trO r sc σ c)).bind fun t => if t = true then r.ss sc ow σ a else r.ss sc ow σ b
 | .For target iter body orelse _ => Rs.up (forE r sc ow σ target iter body orelse)
 | .While test body orelse _ => Rs.up (if orelse.isEmpty = true then whileGo r sc ow test body 4096 σ else none)
 | .Return e _ => Rs.up (e.bind fun e => retE r sc σ e)
 | .Break _ => .ok (.brk,σ)
 | .Raise e c _ => match c with
  | none => (e.bind fun e => raiseE T r sc σ e).map .error
  | some _ => none
 | _ => none
noncomputable def ssE (sc : Names) (ow : Option Str) (σ : St) : List Stmt → Rs (Out × St)
 | [] => .ok (.next,σ)
 | st :: rest => (stmtE T r sc ow σ st).bind fun p => match p with
   | (.next,σ') => r.ss sc ow σ' rest
   | p => .ok p
noncomputable def fnE (f : Str) (ds : List PyData) : Rs PyData :=
 match T.fns.lookup f with
 | some fd => if fd.params.length = ds.length then (r.ss fd.names fd.own ⟨fd.params.zip ds,none⟩ fd.body).bind fun p => (match p with
   | (.ret d,_) => .ok d
   | (.next,_) => .ok .none
   | (.brk,_) => none) else none
 | none => match T.orc.lookup f with
  | some g => g ds
  | none => none
noncomputable def step : Evs where
 still:=false
 ex:=exE T r
 tr:=trE r
 ss:=ssE T r
 fn:=fnE T r
end
noncomputable def evs (T : Tab) : Nat → Evs
 | 0 => bottom
 | n + 1 => step T (evs T n)
end
section
variable [bs : Base]
variable {qt : Bool}
noncomputable def Stk (hb : Heap) (A : Around) (h : Heap) : Prop :=
 ∃ l,A.frames = some l ∧ (∀ env ∈ l,env.scope.kind ≠ .module ∧ ∃ L o es ep,env.frame = some L ∧ hb.get? L = none ∧ h.get? L = some o ∧ o.cls = .type "frame" ∧ o.data = .dict es ep) ∧ ∀ a,hb.get? a = none → Base.h.get? a = none
theorem Stk.keep {hb : Heap} {A : Around} {h h' : Heap} (x : Stk hb A h) (k : Keep h h') : Stk hb A h':=by
 obtain ⟨l,e,f,lk⟩:=x
 refine ⟨l,e,fun env hm => ?_,lk⟩
 obtain ⟨h1,L,o,es,ep,h2,h3,h4,h5,h6⟩:=f env hm
 obtain ⟨o',e',al⟩:=k L o h4
 exact ⟨h1,L,o',es,ep,h2,h3,e',al.cls.trans h5,al.data.trans h6⟩
noncomputable def HandOk (hb : Heap) (A : Around) : Prop:=A.handled = none ∨ ∃ e oe vs,A.handled = some (.ref e) ∧ hb.get? e = some oe ∧ oe.cls ≠ .type "frame" ∧ oe.data = .fields vs ∧ vs[2]? = some .none
structure Rm (qt : Bool) (hb : Heap) (n : Nat) (A : Around) : Prop where
 hand : qt = false → A.handled = none
 hok : HandOk hb A
 depth : A.depth + n < recursionLimit
 units : A.units + 3 * n + 100 < cLine
theorem Rm.le {hb : Heap} {n m : Nat} {A : Around} (x : Rm qt hb n A) (h : m ≤ n) : Rm qt hb m A:=⟨x.hand,x.hok,by have:=x.depth;omega,by have:=x.units;omega⟩
theorem Rm.deeper {hb : Heap} {n : Nat} {A : Around} (x : Rm qt hb (n + 1) A) (env : Env) : Rm qt hb n (A.deeper env) :=
 ⟨x.hand,x.hok,by have:=x.depth;show A.depth + 1 + n < _;omega,by have:=x.units;show A.units + 3 + _ + _ < _;omega⟩
structure FnAt (hb : Heap) (mg : Str → Option Value) (f : Str) (fd : Fn) : Prop where
 there : ∃ a o fdat,mg f = some (.ref a) ∧ hb.get? a = some o ∧ o.cls ≠ .type "frame" ∧ o.data = .func fdat ∧ fdat.body = .stmts fd.body ∧ fdat.scope.names = fd.names ∧ fdat.scope.kind = .function ∧
  fdat.scope.isGenerator = false ∧ fdat.scope.isCoroutine = false ∧ fdat.closure = [] ∧ fdat.globals = mainGlobals ∧ fdat.builtins = builtinsNs ∧ hb.CodeRec fdat.code fdat.qualname ∧
  (∀ vals : List Value,vals.length = fd.params.length → ∀ (prog : Program) (w : World) (A : Around) (Q : List (Str × Value) → Shared → Prop) (E : Value → Shared → Prop) (s : Shared),Keep hb s.heap → Q (fd.params.zip vals) s → wpAny (model prog w) A (bindArgs fdat ⟨vals,[]⟩) Q E s)
 once : Once fd.names
 params : ∀ x ∈ fd.params,fd.names.lookup x = some .local ∨ fd.names.lookup x = some .cell
 nodup : fd.params.Nodup
 nofree : ∀ x,fd.names.lookup x ≠ some .free
 n1 : fd.names.lookup (Str.ofString "__classdict__") = none
 n2 : fd.names.lookup (Str.ofString "__debug__") = none
structure Gl (prog : Program) (w : World) (T : Tab) (hb : Heap) (mg mb : Str → Option Value) : Prop where
 g : hb.Ns mainGlobals mg
 b : hb.Ns builtinsNs mb
 lim : hb.NoLimit
 sm : ∃ o,hb.get? sysModules = some o
 blt : ∀ f id,blts.lookup f = some id → mg f = none ∧ mb f = some (bltOf id)
 glob : ∀ x d,T.glob.lookup x = some d → ∃ v,mg x = some v ∧ Rep prog w (fun ζ => False) hb v d
 fns : ∀ f fd,T.fns.lookup f = some fd → FnAt hb mg f fd
structure Fx (prog : Program) (w : World) (hb : Heap) (sc : Names) (hF : Heap) (O : Addr → Prop) (h : Heap) (env : Env) (ρ : Vars) : Prop where
 F : FrI prog w sc hF O h env ρ
 kb : Keep hb hF
 onew : ∀ a,O a → hb.get? a = none
theorem Fx.keeps {prog : Program} {w : World} {hb : Heap} {sc : Names} {hF : Heap} {O : Addr → Prop} {h h' : Heap} {env : Env} {ρ : Vars} (x : Fx prog w hb sc hF O h env ρ) (k : Keep h h') : Fx prog w hb sc hF O h' env ρ :=
 ⟨x.F.keeps k,x.kb,x.onew⟩
theorem Fx.base {prog : Program} {w : World} {hb : Heap} {sc : Names} {hF : Heap} {O : Addr → Prop} {h : Heap} {env : Env} {ρ : Vars} (x : Fx prog w hb sc hF O h env ρ) : Keep hb h:=x.kb.trans x.F.keep
noncomputable def ExOk (prog : Program) (w : World) (hb : Heap) (qt : Bool) (n : Nat) (ex : Names → Vars → Expr → Option PyData) : Prop :=
 ∀ sc ρ e d,ex sc ρ e = some d → ∀ (A : Around) (s : Shared) (env : Env) (hF : Heap) (O : Addr → Prop) (Q : Value → Shared → Prop) (E : Value → Shared → Prop),
  Rm qt hb n A → Fx prog w hb sc hF O s.heap env ρ → Stk hb A s.heap → (∀ v s',Post prog w O s s' v d → Q v s') → wpAny (model prog w) A (eval e env) Q E s
noncomputable def PostB (s s' : Shared) : Prop:=∃ h' tk,s' = { s with heap:=h',toks:=tk } ∧ Keep s.heap h'
noncomputable def TrOk (prog : Program) (w : World) (hb : Heap) (qt : Bool) (n : Nat) (tr : Names → Vars → Expr → Option Bool) : Prop :=
 ∀ sc ρ e b,tr sc ρ e = some b → ∀ (A : Around) (s : Shared) (env : Env) (hF : Heap) (O : Addr → Prop) (Q : Bool → Shared → Prop) (E : Value → Shared → Prop),
  Rm qt hb n A → Fx prog w hb sc hF O s.heap env ρ → Stk hb A s.heap → (∀ s',PostB s s' → Q b s') → wpAny (model prog w) A (isTrue e env (eval e env)) Q E s
noncomputable def Fly (h₀ h : Heap) (e : Addr) (C : Value) (x : Str) : Prop :=
 ∃ t tk,h.TracedW h₀ e C (.ref t) ∧ h₀.get? e = none ∧ h₀.get? t = none ∧ PT h t [.str x tk]
noncomputable def FnOk (prog : Program) (w : World) (hb : Heap) (mg : Str → Option Value) (cl : Str → Option Value) (n : Nat) (fn : Str → List PyData → Rs PyData) : Prop :=
 ∀ f ds r,fn f ds = some r → ∃ a,mg f = some (.ref a) ∧ (∃ o fd,hb.get? a = some o ∧ o.cls ≠ .type "frame" ∧ o.data = .func fd) ∧ ∀ (A : Around) (s : Shared) (O : Addr → Prop) (vs : List Value) (Q : Value → Shared → Prop) (E : Value → Shared → Prop),
  Rm false hb n A → Keep hb s.heap → Old O s.heap → (∀ a,O a → hb.get? a = none) → RepAll prog w O s.heap vs ds → Stk hb A s.heap →
  (∀ d,r = .ok d → ∀ v s',Post prog w O s s' v d → Q v s') →
  (∀ x,r = .error x → ∀ e h' tk C,cl x.cls = some C → Keep s.heap h' → Fly s.heap h' e C x.word → E (.ref e) { s with heap:=h',toks:=tk }) →
  wpAny (model prog w) A (call (.ref a) vs) Q E s
section
variable {prog : Program} {w : World} {hb : Heap} {n : Nat} {A : Around} {s : Shared} {env : Env} {sc : Names} {hF : Heap} {O : Addr → Prop} {ρ : Vars} {E : Value → Shared → Prop}
theorem post_trans {s₀ s₁ s₂ : Shared} {v : Value} {d : PyData} {h₁ : Heap} {tk : Nat} (e : s₁ = { s₀ with heap:=h₁,toks:=tk }) (k : Keep s₀.heap h₁) (p : Post prog w O s₁ s₂ v d) : Post prog w O s₀ s₂ v d:=by
 obtain ⟨h₂,tk₂,e₂,k₂,r⟩:=p
 subst e
 exact ⟨h₂,tk₂,e₂,k.trans k₂,r⟩
theorem starEach_cons {e : Expr} {es : List Expr} (h : isStar e = false) : starEach (e :: es) env = (false,eval e env) :: starEach es env:=by
 cases e with
 | Starred => exact nomatch h
 | _ => rfl
theorem backTo_cons {pos : Pos} {t : Sem Value} {l : List (Bool × Sem Value)} : backTo pos ((false,t) :: l) = (false,t) :: backTo pos l:=rfl
variable {r : Evs}
theorem evList_inv {e : Expr} {es : List Expr} {ds : List PyData} (h : evList r sc ρ (e :: es) = some ds) : isStar e = false ∧ ∃ d ds',r.ex sc ρ e = some d ∧ evList r sc ρ es = some ds' ∧ ds = d :: ds' :=
 let ⟨h0,h⟩:=ite_inv' h;let ⟨d,h1,h⟩:=bMp h;let ⟨ds',h2,h⟩:=bMp h;⟨Bool.eq_false_iff.mpr h0,d,ds',h1,h2,(Option.some.inj h).symm⟩
theorem evList_ok (S : ExOk prog w hb qt n r.ex) (rm : Rm qt hb n A) (pos : Pos) (es : List Expr) (ds : List PyData) (h : evList r sc ρ es = some ds) (s : Shared) (Q : List Value → Shared → Prop) (F : Fx prog w hb sc hF O s.heap env ρ) (K : Stk hb A s.heap)
  (hQ : ∀ vs h' tk,Keep s.heap h' → RepAll prog w O h' vs ds → Q vs { s with heap:=h',toks:=tk }) : wpAny (model prog w) A (spliced (backTo pos (starEach es env))) Q E s:=by
 induction es generalizing ds s Q with
 | nil => obtain rfl:=Option.some.inj h;exact Calls.spliced_nil (hQ [] s.heap s.toks (Keep.refl _) .nil)
 | cons e es ih =>
  obtain ⟨hst,d,ds',h1,h3,rfl⟩:=evList_inv h
  rw [starEach_cons hst]
  refine Calls.spliced_cons (S sc ρ e d h1 A s env hF O _ _ rm F K fun v s' p => ?_)
  obtain ⟨h',tk,rfl,k,rv⟩:=p
  exact ih ds' h3 _ _ (F.keeps k) (K.keep k) fun vs h'' tk' k' rs => hQ (v :: vs) h'' tk' (k.trans k') (.cons (rv.keep k') rs)
theorem any_false {pos : Pos} {es : List Expr} {ds : List PyData} (h : evList r sc ρ es = some ds) : (backTo pos (starEach es env)).any (·.1) = false:=by
 induction es generalizing ds with
 | nil => rfl
 | cons e es ih =>
  obtain ⟨hst,d,ds',h1,h3,-⟩:=evList_inv h
  rw [starEach_cons hst]
  exact ih h3
theorem evArgs_ok (S : ExOk prog w hb qt n r.ex) (rm : Rm qt hb n A) {f : Value} {pos : Pos} {es : List Expr} {ds : List PyData} (h : evList r sc ρ es = some ds) {Q : Args → Shared → Prop} (F : Fx prog w hb sc hF O s.heap env ρ) (K : Stk hb A s.heap)
  (hQ : ∀ vs h' tk,Keep s.heap h' → RepAll prog w O h' vs ds → Q ⟨vs,[]⟩ { s with heap:=h',toks:=tk }) : wpAny (model prog w) A (evalArgs f true (backTo pos (starEach es env)) []) Q E s:=by
 have key:=evList_ok (E:=E) S rm pos es ds h s (fun vs s' => Q ⟨vs,[]⟩ s') F K hQ
 cases es with
 | nil => exact evalArgs_kw_nil rfl key
 | cons e es =>
  have hst:=(evList_inv h).1
  rw [starEach_cons hst] at key ⊢
  exact Calls.evalArgs_plain key
end
end
section
variable [bs : Base]
section
variable {prog : Program} {w : World} {A : Around} {E : Value → Shared → Prop} {s : Shared}
noncomputable def QuietE (A : Around) (h : Heap) : Prop:=A.handled = none ∨ ∃ e oe vs,A.handled = some (.ref e) ∧ h.get? e = some oe ∧ oe.cls ≠ .type "frame" ∧ oe.data = .fields vs ∧ vs[2]? = some .none
theorem raiseNew_q {α : Type} {a : Addr} {o : Obj} {vs : Array Value} {Q : α → Shared → Prop} (ho : s.heap.get? a = some o) (hd : o.data = .fields vs) (hs : 2 < vs.size) (hne : ∀ e,A.handled = some (.ref e) → e ≠ a) (q : QuietE A s.heap)
  (h : ∀ h',Heap.ExtBut a s.heap h' → (∃ o',h'.get? a = some o' ∧ o'.cls = o.cls) → E (.ref a) { s with heap:=h' }) : wpAny (model prog w) A (raiseNew (.ref a) : Sem α) Q E s:=by
 rcases q with hh | ⟨e,oe,us,hh,he,_,hed,he2⟩
 ·exact wpAny_raiseNew_none hh (h s.heap (fun ζ ζ ζ e => e) ⟨o,ho,rfl⟩)
 ·have ne:=hne e hh
  unfold raiseNew
  refine wpAny_bind (wpAny_handled ?_)
  rw [hh]
  have hb : (Value.ref e != Value.ref a) = true:=bne_iff_ne.mpr fun z => ne (Value.ref.inj z)
  show wpAny _ _ (if (Value.ref e != Value.ref a) = true then _ else _) _ _ _
  rw [if_pos hb]
  refine wpAny_bind (wpAny_holding (runValue_entry (b:=Builtin.«proto.unchain») (entryFor_of_tree (by kernel_rfl)) ?_))
  show wpAny _ _ (Builtin.«proto.unchain» _) _ _ _
  unfold Builtin.«proto.unchain»
  refine wpAny_bind (wpAny_field he hed he2 ?_)
  show wpAny _ _ (ret Value.none) _ _ _
  refine wpAny_pure ⟨_,rfl,?_⟩
  refine wpAny_bind (m:=setField (.ref a) 2 (.ref e)) (wpAny_setField (i:=2) (x:=.ref e) ho hd hs (wpAny_throw (h _ (Heap.SameBut.update ..).extBut ⟨_,Heap.get?_update_self _ ho (Obj.isFreed_of_fields (Obj.data_mapFields hd _)),Obj.cls_mapFields ..⟩)))
theorem list_end_q {it l : Addr} {i : Nat} {items : Array Value} {Q : Option Value → Shared → Prop} (q : QuietE A s.heap) (hit : s.heap.IsListIter it l i) (hl : s.heap.IsList l items) (hx : items[i]? = none)
  (hQ : ∀ h',Heap.ExtBut it s.heap h' → Q none { s with heap:=h' }) : wpAny (model prog w) A (pyNext (.ref it)) Q E s:=by
 rcases q with hh | q
 ·exact wpAny_pyNext_list_end hh hit hl hx hQ
 ·obtain ⟨o,ho,hc,hd⟩:=id hit
  obtain ⟨ol,hol,_,nl,hdl⟩:=hl
  unfold pyNext
  refine wpAny_bind (wpAny_attempt (wpAny_callSpecial?_slot (name:=Str.ofString "__next__") hit.typeIs slot_listiter_next (wpAny_call_entry slot_listiter_next hit.typeIs entry_listiter_next ?_ (args_listiter_next _))))
  show wpAny _ _ (field (.ref it) 0 >>= _) _ _ s
  refine wpAny_bind (wpAny_field ho hd (x:=.ref l) rfl ?_)
  show wpAny _ _ (if (Value.ref l == Value.none) = true then _ else _) _ _ s
  rw [if_neg (show ¬ ((Value.ref l == Value.none) = true) from Bool.false_ne_true)]
  show wpAny _ _ (field (.ref it) 1 >>= _) _ _ s
  refine wpAny_bind (wpAny_field ho hd (x:=.int i 0) rfl ?_)
  show wpAny _ _ (seqItems? (.ref l) >>= _) _ _ s
  refine wpAny_bind (wpAny_seqItems hol hdl ?_)
  simp only [Int.toNat_natCast,hx]
  refine wpAny_bind (wpAny_rule (wpAny_bind (wpAny_setField ho hd (by simp) ?_)))
  have ex1:=(Heap.SameBut.update (h:=s.heap) (a:=it) (f:=Obj.mapFields (·.setIfInBounds 0 Value.none))).extBut
  generalize s.heap.update it _ = h1 at ex1 ⊢
  show wpAny _ _ (newExc (.type "StopIteration") [] >>= _) _ _ _
  refine wpAny_bind ?_
  simp only [newExc,newTuple]
  refine wpAny_bind (wpAny_newObj_type ?_ (by size_fits))
  refine wpAny_bind (m:=firstArgMember _ _) (wpAny_of_eq (a:=Value.none) (by first | rfl | (simp only [firstArgMember];rfl)) ?_)
  refine wpAny_newObj_type ?_ (by size_fits)
  obtain ⟨e,oe,us,hh,he,hef,hed,he2⟩:=q
  have ne : e ≠ it:=fun z => by
   subst z
   cases ho.symm.trans he
   cases hd.symm.trans hed
   cases he2
  have kp : ∀ b o,b ≠ it → s.heap.get? b = some o → ((h1.push { cls:=.type "tuple",data:=.seq #[] }).push { cls:=.type "StopIteration",data:=.fields (#[.ref h1.objs.size,.none,.none,.none,.bool false,.none] ++ ownMembersOf (.type "StopIteration") []) }).get? b = some o:=fun b o nb e => Heap.get?_push_of_some _ (Heap.get?_push_of_some _ (ex1 b o nb e))
  have hnew : ∀ b o,b ≠ it → s.heap.get? b = some o → b ≠ (h1.push { cls:=.type "tuple",data:=.seq #[] }).objs.size:=fun b o nb e => Nat.ne_of_lt (Heap.lt_size (Heap.get?_push_of_some _ (ex1 b o nb e)))
  refine raiseNew_q (A:=A.in1) (Heap.get?_push_size _ rfl) rfl (by rw [Array.size_append];exact Nat.lt_add_right _ (show 2 < 6 by decide)) (fun e' hh' => by
   cases (show A.handled = some (.ref e') from hh').symm.trans hh
   exact hnew _ oe ne he) (.inr ⟨e,oe,us,hh,kp e oe ne he,hef,hed,he2⟩) fun h' ext ⟨o',ho',hc'⟩ => ?_
  refine wpAny_bind (wpAny_isInstance (T:="StopIteration") (b:=true) ⟨o',ho',hc'⟩ isSubtype_stop ?_)
  exact wpAny_pure (hQ h' fun b o nb e => ext b o (hnew b o nb e) (kp b o nb e))
theorem walks_q {I ax e : Addr} (hh : A.handled = some (.ref e)) (hne : ax ≠ I) (hei : e ≠ I) (items : Array Value) :
  Walks prog w A I [I,ax,e] [I] items.size (fun i v => items[i]? = some v) (fun i h => h.IsListIter I ax i ∧ h.IsList ax items ∧ ∃ oe vs,h.get? e = some oe ∧ oe.cls ≠ .type "frame" ∧ oe.data = .fields vs ∧ vs[2]? = some .none) where
 sub:=fun b hb => sMp hb ▸ List.mem_cons_self
 frame:=fun ζ ζ ζ st hk => ⟨st.1.at fun o e => hk I (by simp) o e,st.2.1.at fun o e => hk ax (by simp) o e,let ⟨oe,vs,h1,h2⟩:=st.2.2;⟨oe,vs,hk e (by simp) oe h1,h2⟩⟩
 item:=fun i s Q E hi st hQ => by
  refine wpAny_pyNext_list_item st.1 st.2.1 (x:=items[i]) (by simp [hi]) fun h' hit' hs' => ?_
  obtain ⟨oe,vs,h1,h2⟩:=st.2.2
  exact hQ _ h' s.toks (by simp [hi]) ⟨hit',st.2.1.extBut hs'.extBut hne,oe,vs,hs'.extBut e oe hei h1,h2⟩ fun b o hb e => hs'.extBut b o (fun h => hb (by simp [h])) e
 done:=fun s Q E st hQ => by
  obtain ⟨oe,vs,h1,h2⟩:=st.2.2
  exact list_end_q (.inr ⟨e,oe,vs,hh,h1,h2⟩) st.1 st.2.1 (by simp) fun h' he' => hQ h' s.toks fun b o hb e => he' b o (fun h => hb (by simp [h])) e
 self:=fun ζ ζ ζ ζ st hQ => wpAny_pyIter_listiter st.1 hQ
theorem iter_listQ {hb : Heap} {O : Addr → Prop} {v : Value} {xs : List PyData} (hok : HandOk hb A) (kb : Keep hb s.heap) (on : ∀ a,O a → hb.get? a = none) (r : Rep prog w O s.heap v (.list xs)) {Q : Value → Shared → Prop}
  (h : ∀ I h' St,Keep s.heap h' → s.heap.get? I = none → (∀ tg,It prog w A tg O h' I (· = I) xs St) → St 0 h' → Q (.ref I) { s with heap:=h' }) : wpAny (model prog w) A (pyIter v) Q E s:=by
 rcases hok with hh | ⟨e,oe,vs,hh,he,hef,hed,he2⟩
 ·exact iter_rule hh h r rfl
 ·refine r.listE fun a us na l rs => wpAny_pyIter_list l.isList ?_
  have hne : a ≠ s.heap.objs.size:=let ⟨_,ho⟩:=l;Nat.ne_of_lt (Heap.lt_size ho)
  have kp:=Keep.push s.heap { cls:=.type "list_iterator",data:=.fields #[.ref a,.int 0 0] }
  have he':=kb.same he hef
  have hei : e ≠ s.heap.objs.size:=Nat.ne_of_lt (Heap.lt_size he')
  have hI:=Heap.get?_push_size s.heap (o:={ cls:=.type "list_iterator",data:=.fields #[.ref a,.int 0 0] }) rfl
  have hTn : "list_iterator" ≠ "list" ∧ "list_iterator" ≠ "tuple" ∧ "list_iterator" ≠ "dict":=by decide
  refine h _ _ _ kp (fresh_size _) (fun tg => It.of_walks (walks_q hh hne hei us.toArray) ((List.size_toArray ..).trans rs.length) (T:="list_iterator") (fun i h st => let ⟨o,ho,hc,_⟩:=st.1;⟨o,ho,hc⟩) hTn (by decide +kernel) (fun b hb' => ?_) fun i v ζ hv => ?_) ⟨⟨_,hI,rfl,rfl⟩,(l.keepK kp).isList,oe,vs,kp.same he' hef,hef,hed,he2⟩
  ·rcases cMp hb' with rfl | hb'
   ·exact ⟨.inl rfl,fun i h st o ho => by obtain ⟨o',ho',hc,_⟩:=st.1;cases ho.symm.trans ho';rw [hc];exact fun z => absurd (Value.type.inj z) (by decide)⟩
   ·rcases cMp hb' with rfl | hb'
    ·exact ⟨.inr ⟨na,(let ⟨_,ho⟩:=l.keepK kp;⟨_,ho⟩)⟩,fun i h st o ho => by obtain ⟨o',ho',hc,_⟩:=st.2.1;cases ho.symm.trans ho';rw [hc];exact fun z => absurd (Value.type.inj z) (by decide)⟩
    ·rw [sMp hb']
     exact ⟨.inr ⟨fun z => (nomatch he.symm.trans (on _ z)),oe,kp.same he' hef⟩,fun i h st o ho => by obtain ⟨o',_,ho',hc,_⟩:=st.2.2;cases ho.symm.trans ho';exact hc⟩
  ·obtain ⟨d,hd,r⟩:=(rs.keep kp).get i v (List.getElem?_toArray.symm.trans hv)
   exact ⟨d,hd,rep_not_iter hI rfl hTn r⟩
end
end
section
variable [bs : Base]
variable {qt : Bool}
section
variable {prog : Program} {w : World} {T : Tab} {hb : Heap} {mg mb : Str → Option Value} {n : Nat} {A : Around} {s : Shared} {env : Env} {sc : Names} {hF : Heap} {O : Addr → Prop} {ρ : Vars} {E : Value → Shared → Prop} {r : Evs}
theorem dbg (F : Fx prog w hb sc hF O s.heap env ρ) {x : Str} {k : NameKind} (hx : sc.lookup x = some k) : (x == (Str.ofString "__debug__")) = false:=by
 cases e : x == (Str.ofString "__debug__") with
 | false => rfl
 | true => rw [beq_iff_eq.mp e,F.F.ndb] at hx;cases hx
theorem rep_base {v : Value} {d : PyData} {h : Heap} (r : Rep prog w (fun ζ => False) hb v d) (on : ∀ a,O a → hb.get? a = none) (k : Keep hb h) : Rep prog w O h v d :=
 (r.other (O':=O) fun a o e ζ z => by rw [on a z] at e;cases e).keep k
theorem constE_ok {c : Const} {d : PyData} (h : constE c = some d) {k : Nat} {pos : Pos} {Q : Value → Shared → Prop} (hQ : ∀ v s',Post prog w O s s' v d → Q v s') : wpAny (model prog w) A (eval (.Constant c k pos) env) Q E s:=by
 cases c with
 | none => obtain rfl:=Option.some.inj h;exact wpAny_pure (hQ _ _ (post_here .none))
 | bool => obtain rfl:=Option.some.inj h;exact wpAny_pure (hQ _ _ (post_here (.bool _)))
 | int => obtain rfl:=Option.some.inj h;exact wpAny_Constant_int (hQ _ _ (post_same (.int _ _)))
 | str => obtain rfl:=Option.some.inj h;exact Calls.Constant_str (hQ _ _ (post_same (.str _ _)))
 | _ => exact nomatch h
theorem isVar_cases {k : Option NameKind} (h : isVar k = true) : k = some .local ∨ k = some .cell ∨ k = some .free:=by
 match k,h with
 | some .local,_ => exact .inl rfl
 | some .cell,_ => exact .inr (.inl rfl)
 | some .free,_ => exact .inr (.inr rfl)
theorem isOwn_cases {k : Option NameKind} (h : isOwn k = true) : k = some .local ∨ k = some .cell:=by
 match k,h with
 | some .local,_ => exact .inl rfl
 | some .cell,_ => exact .inr rfl
set_option tactic.hygienic true in
theorem nameE_ok (G : Gl prog w T hb mg mb) (F : Fx prog w hb sc hF O s.heap env ρ) {x : Str} {pos : Pos} {d : PyData}
  (h : (if isVar (sc.lookup x) = true then ρ.lookup x else if sc.lookup x = some .globalImplicit then T.glob.lookup x else none) = some d)
  {Q : Value → Shared → Prop} (hQ : ∀ v s',Post prog w O s s' v d → Q v s') : wpAny (model prog w) A (eval (.Name x pos) env) Q E s:=by
 split at h
 ·rename_i hv;exact F.F.name h (isVar_cases hv) fun v r => hQ v s (post_here r)
 ·split at h
  ·rename_i hg
   obtain ⟨v,e,rv⟩:=G.glob x d h
   refine Calls.Name_function_global F.F.kind (F.F.glo x hg) (Calls.loadGlobal_global (by rw [F.F.glob];exact ns_keep G.g F.base) e (hQ v s (post_here (rep_base rv F.onew F.base)))) (dbg F hg)
  ·cases h
theorem nameB_ok (G : Gl prog w T hb mg mb) (F : Fx prog w hb sc hF O s.heap env ρ) {x : Str} {pos : Pos} {id : String} (hg : sc.lookup x = some .globalImplicit) (hb' : blts.lookup x = some id)
  {Q : Value → Shared → Prop} (hQ : Q (bltOf id) s) : wpAny (model prog w) A (eval (.Name x pos) env) Q E s:=by
 obtain ⟨e1,e2⟩:=G.blt x id hb'
 exact Calls.Name_function_global F.F.kind (F.F.glo x hg) (Calls.loadGlobal_builtin (by rw [F.F.glob];exact ns_keep G.g F.base) e1 (by rw [F.F.blt];exact ns_keep G.b F.base) e2 hQ) (dbg F hg)
theorem nameG_ok (G : Gl prog w T hb mg mb) (F : Fx prog w hb sc hF O s.heap env ρ) {x : Str} {pos : Pos} {v : Value} (hg : sc.lookup x = some .globalImplicit) (e : mg x = some v)
  {Q : Value → Shared → Prop} (hQ : Q v s) : wpAny (model prog w) A (eval (.Name x pos) env) Q E s :=
 Calls.Name_function_global F.F.kind (F.F.glo x hg) (Calls.loadGlobal_global (by rw [F.F.glob];exact ns_keep G.g F.base) e hQ) (dbg F hg)
theorem marks_false {op : CmpOp} {b : Expr} (h : isSet b = false) : behindInMarks op b = false:=by
 cases b with
 | Set => exact nomatch h
 | _ => rfl
section
variable (Sx : ExOk prog w hb qt n r.ex) (St' : TrOk prog w hb qt n r.tr) (rm : Rm qt hb n A)
include Sx rm
theorem two_ok {a b : Expr} {d1 d2 : PyData} (h1 : r.ex sc ρ a = some d1) (h2 : r.ex sc ρ b = some d2) (F : Fx prog w hb sc hF O s.heap env ρ) (K : Stk hb A s.heap) {Q : Value → Value → Shared → Prop}
  (hQ : ∀ v1 v2 h' tk,Keep s.heap h' → Rep prog w O h' v1 d1 → Rep prog w O h' v2 d2 → Q v1 v2 { s with heap:=h',toks:=tk }) :
  wpAny (model prog w) A (eval a env) (fun v1 s₁ => wpAny (model prog w) A (eval b env) (fun v2 s₂ => Q v1 v2 s₂) E s₁) E s:=by
 refine Sx sc ρ a d1 h1 A s env hF O _ _ rm F K fun v1 s₁ p1 => ?_
 obtain ⟨h₁,tk₁,rfl,k1,r1⟩:=p1
 refine Sx sc ρ b d2 h2 A _ env hF O _ _ rm (F.keeps k1) (K.keep k1) fun v2 s₂ p2 => ?_
 obtain ⟨h₂,tk₂,rfl,k2,r2⟩:=p2
 exact hQ v1 v2 h₂ tk₂ (k1.trans k2) (r1.keep k2) r2
theorem binE_ok {a b : Expr} {op : Operator} {pos : Pos} {d : PyData} (h : ((r.ex sc ρ a).bind fun d1 => (r.ex sc ρ b).bind fun d2 => binop op d1 d2) = some d) (F : Fx prog w hb sc hF O s.heap env ρ) (K : Stk hb A s.heap)
  {Q : Value → Shared → Prop} (hQ : ∀ v s',Post prog w O s s' v d → Q v s') : wpAny (model prog w) A (eval (.BinOp a op b pos) env) Q E s:=by
 obtain ⟨d1,h1,h⟩:=bMp h
 obtain ⟨d2,h2,h⟩:=bMp h
 refine wpAny_BinOp (two_ok Sx rm h1 h2 F K fun v1 v2 h' tk k r1 r2 => ?_)
 exact binop_rule (F.F.old.keep k) r1 r2 h fun v s' p => hQ v s' (post_trans rfl k p)
theorem cmpE_ok {a b : Expr} {op : CmpOp} {pos : Pos} {d : PyData} (hs : isSet b = false) (h : ((r.ex sc ρ a).bind fun d1 => (r.ex sc ρ b).bind fun d2 => (cmpop op d1 d2).bind fun c => some (.bool c)) = some d) (F : Fx prog w hb sc hF O s.heap env ρ) (K : Stk hb A s.heap)
  {Q : Value → Shared → Prop} (hQ : ∀ v s',Post prog w O s s' v d → Q v s') : wpAny (model prog w) A (eval (.Compare a [op] [b] pos) env) Q E s:=by
 obtain ⟨d1,h1,h⟩:=bMp h
 obtain ⟨d2,h2,h⟩:=bMp h
 obtain ⟨c,h3,h⟩:=bMp h
 obtain rfl:=Option.some.inj h
 refine wpAny_Compare1 (two_ok Sx rm h1 h2 F K fun v1 v2 h' tk k r1 r2 => ?_) (marks_false hs)
 exact cmpop_rule (by have:=rm.units;omega) r1 r2 h3 (hQ _ _ ⟨h',tk,rfl,k,.bool _⟩)
theorem cmpT_ok {a b : Expr} {op : CmpOp} {pos : Pos} {c : Bool} {whole : Sem Value} (hs : isSet b = false) (h : ((r.ex sc ρ a).bind fun d1 => (r.ex sc ρ b).bind fun d2 => cmpop op d1 d2) = some c) (F : Fx prog w hb sc hF O s.heap env ρ) (K : Stk hb A s.heap)
  {Q : Bool → Shared → Prop} (hQ : ∀ s',PostB s s' → Q c s') : wpAny (model prog w) A (isTrue (.Compare a [op] [b] pos) env whole) Q E s:=by
 obtain ⟨d1,h1,h⟩:=bMp h
 obtain ⟨d2,h2,h⟩:=bMp h
 refine wpAny_isTrue_Compare1 (two_ok Sx rm h1 h2 F K fun v1 v2 h' tk k r1 r2 => ?_) (marks_false hs)
 exact cmpop_rule (by have:=rm.units;omega) r1 r2 h (wpAny_truthy_bool (hQ _ ⟨h',tk,rfl,k⟩))
theorem listE_ok {es : List Expr} {pos : Pos} {ds : List PyData} (h : evList r sc ρ es = some ds) (F : Fx prog w hb sc hF O s.heap env ρ) (K : Stk hb A s.heap)
  {Q : Value → Shared → Prop} (hQ : ∀ v s',Post prog w O s s' v (.list ds) → (∃ a,v = .ref a ∧ s.heap.get? a = none) → Q v s') (hlen : ds.length ≤ 16777216) : wpAny (model prog w) A (eval (.List es pos) env) Q E s:=by
 show wpAny _ _ (do standAt pos;newList (← spliced (backTo pos (starEach es env)))) Q E s
 refine wpAny_bind (wpAny_standAt (wpAny_bind (evList_ok Sx rm pos es ds h s _ F K fun vs h' tk k rs => ?_)))
 refine wpAny_newObj_type ?_ (by have:=rs.length;show vs.toArray.size ≤ _;rw [sizeLine_eq,List.size_toArray];omega)
 refine hQ _ _ (post_trans (s₁:={ s with heap:=h',toks:=tk }) rfl k (newList_post (F.F.old.keep k) rs)) ⟨_,rfl,k.none (fresh_size _)⟩
theorem tupleE_ok {es : List Expr} {k0 : Nat} {pos : Pos} {ds : List PyData} (h : evList r sc ρ es = some ds) (F : Fx prog w hb sc hF O s.heap env ρ) (K : Stk hb A s.heap)
  {Q : Value → Shared → Prop} (hQ : ∀ v s',Post prog w O s s' v (.tuple ds) → Q v s') (hlen : ds.length ≤ 16777216) : wpAny (model prog w) A (eval (.Tuple es k0 pos) env) Q E s:=by
 show wpAny _ _ (do standAt pos;newTuple (← spliced (backTo pos (starEach es env)))) Q E s
 refine wpAny_bind (wpAny_standAt (wpAny_bind (evList_ok Sx rm pos es ds h s _ F K fun vs h' tk k rs => ?_)))
 refine wpAny_newObj_type ?_ (by have:=rs.length;show vs.toArray.size ≤ _;rw [sizeLine_eq,List.size_toArray];omega)
 exact hQ _ _ (post_trans (s₁:={ s with heap:=h',toks:=tk }) rfl k (newTuple_post (F.F.old.keep k) rs))
end
end
end
section
variable [bs : Base]
variable {qt : Bool}
section
variable {prog : Program} {w : World} {T : Tab} {hb : Heap} {mg mb : Str → Option Value} {n : Nat} {A : Around} {s : Shared} {env : Env} {sc : Names} {hF : Heap} {O : Addr → Prop} {ρ : Vars} {E : Value → Shared → Prop} {r : Evs}
theorem evList_length {es : List Expr} {ds : List PyData} (h : evList r sc ρ es = some ds) : ds.length = es.length:=by
 induction es generalizing ds with
 | nil => obtain rfl:=Option.some.inj h;rfl
 | cons e es ih =>
  obtain ⟨-,d,ds',-,h3,rfl⟩:=evList_inv h
  exact congrArg (· + 1) (ih h3)
theorem attrBase_eq {o : Expr} (h : okBase o = true) (m : Str) (env : Env) (w : Sem Value) : attributeBase o m env w = w:=by
 cases o with
 | Call f as ks p => cases f with
  | Name => cases as with
   | nil => cases ks with
    | nil => exact nomatch h
    | cons => rfl
   | cons => rfl
  | _ => rfl
 | _ => rfl
section
variable (Sx : ExOk prog w hb qt n r.ex) (St' : TrOk prog w hb qt n r.tr) (rm : Rm qt hb n A)
include Sx rm
theorem subE_ok {v i : Expr} {pos : Pos} {d : PyData} (h : ((r.ex sc ρ v).bind fun d1 => (r.ex sc ρ i).bind fun k => getitem d1 k) = some d) (F : Fx prog w hb sc hF O s.heap env ρ) (K : Stk hb A s.heap)
  {Q : Value → Shared → Prop} (hQ : ∀ v s',Post prog w O s s' v d → Q v s') : wpAny (model prog w) A (eval (.Subscript v i pos) env) Q E s:=by
 obtain ⟨d1,h1,h⟩:=bMp h
 obtain ⟨d2,h2,h⟩:=bMp h
 refine Subscript_ (two_ok Sx rm h1 h2 F K fun v1 v2 h' tk k r1 r2 => ?_)
 exact getitem_rule r1 r2 h fun v s' p => hQ v s' (post_trans rfl k p)
theorem partE_ok {e : Option Expr} {k : Option Int} (h : partE r sc ρ e = some k) (F : Fx prog w hb sc hF O s.heap env ρ) (K : Stk hb A s.heap)
  {Q : Value → Shared → Prop} (hQ : ∀ v h' tk,Keep s.heap h' → IsPart v k → Q v { s with heap:=h',toks:=tk }) : wpAny (model prog w) A (evalPart e env) Q E s:=by
 cases e with
 | none => obtain rfl:=Option.some.inj h;exact wpAny_pure (hQ _ s.heap s.toks (Keep.refl _) .none)
 | some e =>
  obtain ⟨d,h1,h⟩:=bMp h
  refine Sx sc ρ e d h1 A s env hF O _ _ rm F K fun v s₁ p => ?_
  obtain ⟨h',tk,rfl,k',rv⟩:=p
  obtain ⟨i,hi,rfl⟩:=oMp h
  rw [asInt_inv hi] at rv
  exact rv.intE fun t => hQ _ h' tk k' (.int i t)
theorem sliceE_ok {v : Expr} {l u st : Option Expr} {p pos : Pos} {d : PyData}
  (h : ((r.ex sc ρ v).bind fun d1 => (partE r sc ρ l).bind fun lo => (partE r sc ρ u).bind fun hi => (partE r sc ρ st).bind fun s => slice d1 lo hi s) = some d) (F : Fx prog w hb sc hF O s.heap env ρ) (K : Stk hb A s.heap)
  {Q : Value → Shared → Prop} (hQ : ∀ v s',Post prog w O s s' v d → Q v s') : wpAny (model prog w) A (eval (.Subscript v (.Slice l u st p) pos) env) Q E s:=by
 obtain ⟨d1,h1,h⟩:=bMp h
 obtain ⟨lo,h2,h⟩:=bMp h
 obtain ⟨hi,h3,h⟩:=bMp h
 obtain ⟨sp,h4,h⟩:=bMp h
 refine Subscript_ (Sx sc ρ v d1 h1 A s env hF O _ _ rm F K fun v1 s₁ p1 => ?_)
 obtain ⟨h₁,tk₁,rfl,k1,r1⟩:=p1
 refine wpAny_Slice (partE_ok Sx rm h2 (F.keeps k1) (K.keep k1) fun vl h₂ tk₂ k2 pl => partE_ok Sx rm h3 (F.keeps (k1.trans k2)) (K.keep (k1.trans k2)) fun vu h₃ tk₃ k3 pu =>
  partE_ok Sx rm h4 (F.keeps ((k1.trans k2).trans k3)) (K.keep ((k1.trans k2).trans k3)) fun vs h₄ tk₄ k4 ps => ?_)
 have k14:=((k1.trans k2).trans k3).trans k4
 have kp:=Keep.push h₄ { cls:=.type "slice",data:=.fields #[vl,vu,vs] }
 refine slice_rule (s:={ s with heap:=h₄.push { cls:=.type "slice",data:=.fields #[vl,vu,vs] },toks:=tk₄ }) (F.F.old.keep (k14.trans kp)) (r1.keep (((k2.trans k3).trans k4).trans kp))
  ⟨_,Heap.get?_push_size _ rfl,rfl,rfl⟩ pl pu ps h fun v s' p => hQ v s' (post_trans rfl (k14.trans kp) p)
theorem method_ok {o : Expr} {m : Str} {apos pos : Pos} {args : List Expr} {d : PyData} (hbase : okBase o = true) (hline : (apos.endLine == pos.line) = true) (hlen : args.length < 20)
  (h : ((r.ex sc ρ o).bind fun d1 => (evList r sc ρ args).bind fun ds => method m d1 ds) = some d) (F : Fx prog w hb sc hF O s.heap env ρ) (K : Stk hb A s.heap)
  {Q : Value → Shared → Prop} (hQ : ∀ v s',Post prog w O s s' v d → Q v s') : wpAny (model prog w) A (eval (.Call (.Attribute o m apos) args [] pos) env) Q E s:=by
 obtain ⟨d1,h1,h⟩:=bMp h
 obtain ⟨ds,h2,h⟩:=bMp h
 have hb1:=attrBase_eq hbase m env (eval o env)
 have hany : (backTo pos (starEach args env)).any (·.1) = false:=any_false h2
 have hall : (backTo pos (starEach args env)).all (fun x => !x.1) = true:=by
  rw [List.all_eq_not_any_not,show (fun x : Bool × Sem Value => !!x.1) = (·.1) from funext fun x => Bool.not_not _,hany];rfl
 refine wpAny_Call_method_lateS hb1 (by rw [hall];exact decide_eq_true (show args.length + 0 + 0 < 30 by omega)) hline (Sx sc ρ o d1 h1 A s env hF O _ _ rm F K fun ov s₁ p1 => ?_)
 obtain ⟨h₁,tk₁,rfl,k1,r1⟩:=p1
 obtain ⟨T,id,pa,slot,ty,hT,hnd,hc⟩:=method_rule (s₀:={ s with heap:=h₁,toks:=tk₁ }) r1 h
 refine ⟨T,id,pa,slot,ty,hT,hnd,Calls.callWith_builtin hany (evArgs_ok Sx rm h2 (F.keeps k1) (K.keep k1) fun vs h' tk k rs => ?_)⟩
 exact hc A _ vs Q E (F.F.old.keep (k1.trans k)) k rs fun v s' p => hQ v s' (post_trans rfl (k1.trans k) p)
end
end
end
section
variable [bs : Base]
section
variable {prog : Program} {w : World} {T : Tab} {hb : Heap} {mg mb : Str → Option Value} {cl : Str → Option Value} {n : Nat} {A : Around} {s : Shared} {env : Env} {sc : Names} {hF : Heap} {O : Addr → Prop} {ρ : Vars} {E : Value → Shared → Prop} {r : Evs}
theorem callWith_blt {pos : Pos} {id : String} {args : List (Bool × Sem Value)} {Q : Value → Shared → Prop} (hplain : args.any (·.1) = false)
  (h : wpAny (model prog w) A (evalArgs (bltOf id) true args []) (fun a s₁ => wpAny (model prog w) A (call (bltOf id) ([] ++ a.pos) a.kw) Q E s₁) E s) : wpAny (model prog w) A (callWith pos (bltOf id) [] args []) Q E s:=by
 revert h
 unfold bltOf
 split
 ·exact PySem.callWith_type hplain
 ·exact Calls.callWith_builtin hplain
theorem okR_inv {α : Type} {m : Rs α} {d : α} (h : okR m = some d) : m = some (.ok d):=by
 match m,h with
 | some (.ok d'),h => rw [Option.some.inj h]
theorem oneOf_inv {α : Type} {l : List α} {a : α} (h : oneOf l = some a) : l = [a]:=by
 match l,h with
 | [b],h => rw [Option.some.inj h]
theorem evList_one {a : Expr} {d : PyData} (hs : isStar a = false) (h : r.ex sc ρ a = some d) : evList r sc ρ [a] = some [d] :=
 (if_neg (Bool.eq_false_iff.mp hs)).trans (by rw [h];rfl)
section
variable (G : Gl prog w T hb mg mb) (Sx : ExOk prog w hb false n r.ex) (St' : TrOk prog w hb false n r.tr) (Sf : FnOk prog w hb mg cl n r.fn) (rm : Rm false hb n A)
include G Sx rm in
theorem bltE_ok {f : Str} {np pos : Pos} {a : Expr} {b : String} {d : PyData} (hg : sc.lookup f = some .globalImplicit) (hbl : blts.lookup f = some b) (hs : isStar a = false)
  (h : ((r.ex sc ρ a).bind fun d => builtin1 b d) = some d) (F : Fx prog w hb sc hF O s.heap env ρ) (K : Stk hb A s.heap)
  {Q : Value → Shared → Prop} (hQ : ∀ v s',Post prog w O s s' v d → Q v s') : wpAny (model prog w) A (eval (.Call (.Name f np) [a] [] pos) env) Q E s:=by
 obtain ⟨d1,h1,h⟩:=bMp h
 have hl:=evList_one hs h1
 refine wpAny_Call_Name_kw (nameB_ok G F hg hbl ?_)
 refine callWith_blt (any_false hl) (evArgs_ok Sx rm hl F K fun vs h' tk k rs => ?_)
 exact rs.oneE fun u r1 => builtin1_rule r1 (fun v s' p => hQ v s' (post_trans rfl k p)) (rm.hand rfl) (F.F.old.keep k) h
include G Sx rm in
theorem max2_ok {f : Str} {np pos : Pos} {a c : Expr} {d : PyData} (hg : sc.lookup f = some .globalImplicit) (hbl : blts.lookup f = some "max") (hs : isStar a = false) (hs' : isStar c = false)
  (h : ((r.ex sc ρ a).bind fun d => (r.ex sc ρ c).bind fun e => int2 (fun x y => some (PyData.int (if y > x then y else x))) d e) = some d) (F : Fx prog w hb sc hF O s.heap env ρ) (K : Stk hb A s.heap)
  {Q : Value → Shared → Prop} (hQ : ∀ v s',Post prog w O s s' v d → Q v s') : wpAny (model prog w) A (eval (.Call (.Name f np) [a,c] [] pos) env) Q E s:=by
 obtain ⟨d1,h1,h⟩:=bMp h
 obtain ⟨d2,h2,h⟩:=bMp h
 obtain ⟨x,y,hx,hy,h⟩:=two_inv h
 refine wpAny_Call_Name_kw (nameB_ok G F hg hbl ?_)
 rw [starEach_cons hs,starEach_cons hs',backTo_cons,backTo_cons]
 refine callWith_blt rfl (Calls.evalArgs_plain (Calls.spliced_cons (Sx sc ρ a d1 h1 A s env hF O _ _ rm F K fun v s₁ p => ?_)))
 obtain ⟨h₁,tk₁,rfl,k1,rv⟩:=p
 refine Calls.spliced_cons (Sx sc ρ c d2 h2 A { s with heap:=h₁,toks:=tk₁ } env hF O _ _ rm (F.keeps k1) (K.keep k1) fun u s₂ p => ?_)
 obtain ⟨h₂,tk₂,rfl,k2,ru⟩:=p
 refine Calls.spliced_nil ?_
 show wpAny _ _ (call (.builtin "max") [v,u]) _ _ _
 rw [asInt_inv hx] at rv
 rw [asInt_inv hy] at ru
 obtain ⟨t,rfl⟩:=rv.is
 obtain ⟨t',rfl⟩:=ru.is
 obtain rfl:=Option.some.inj h
 refine max_two_ints (rm.hand rfl) fun h' tk k => hQ _ _ ⟨h',tk,rfl,(k1.trans k2).trans (.of k),?_⟩
 by_cases c : y > x
 ·rw [if_pos c,if_pos c];exact .int _ _
 ·rw [if_neg c,if_neg c];exact .int _ _
include G Sx rm in
theorem isiE_ok {f c : Str} {np cp pos : Pos} {a : Expr} {d : PyData} (hg : sc.lookup f = some .globalImplicit) (hbl : blts.lookup f = some "isinstance") (hs : isStar a = false)
  (hgc : sc.lookup c = some .globalImplicit) (hblc : blts.lookup c = some "list")
  (h : ((r.ex sc ρ a).bind isListD) = some d) (F : Fx prog w hb sc hF O s.heap env ρ) (K : Stk hb A s.heap)
  {Q : Value → Shared → Prop} (hQ : ∀ v s',Post prog w O s s' v d → Q v s') : wpAny (model prog w) A (eval (.Call (.Name f np) [a,.Name c cp] [] pos) env) Q E s:=by
 obtain ⟨d1,h1,h⟩:=bMp h
 refine wpAny_Call_Name_kw (nameB_ok G F hg hbl ?_)
 rw [starEach_cons hs,starEach_cons rfl,backTo_cons,backTo_cons]
 refine callWith_blt rfl (Calls.evalArgs_plain (Calls.spliced_cons (Sx sc ρ a d1 h1 A s env hF O _ _ rm F K fun v s₁ p => ?_)))
 obtain ⟨h',tk,rfl,k,rv⟩:=p
 refine Calls.spliced_cons (nameB_ok G (F.keeps k) hgc hblc (Calls.spliced_nil ?_))
 show wpAny _ _ (call (.builtin "isinstance") [v,.type "list"]) _ _ _
 cases d1 with
 | list xs =>
  obtain rfl:=Option.some.inj h
  refine rv.listE fun b us ζ l ζ => ?_
  obtain ⟨m,ho⟩:=l
  exact IsiPair.list_list ho rfl (hQ _ _ ⟨h',tk,rfl,k,.bool _⟩)
 | str x => obtain rfl:=Option.some.inj h;exact rv.strE fun t => IsiPair.str_list (hQ _ _ ⟨h',tk + 1,rfl,k,.bool _⟩)
 | _ => exact nomatch h
include G Sx Sf rm in
theorem fnE_call {f : Str} {np pos : Pos} {args : List Expr} {d : PyData} (hg : sc.lookup f = some .globalImplicit)
  (h : ((evList r sc ρ args).bind fun ds => okR (r.fn f ds)) = some d) (F : Fx prog w hb sc hF O s.heap env ρ) (K : Stk hb A s.heap)
  {Q : Value → Shared → Prop} (hQ : ∀ v s',Post prog w O s s' v d → Q v s') : wpAny (model prog w) A (eval (.Call (.Name f np) args [] pos) env) Q E s:=by
 obtain ⟨ds,h1,h⟩:=bMp h
 obtain ⟨a,e,⟨o,fd,ho,hc,hd⟩,call⟩:=Sf f ds _ (okR_inv h)
 exact wpAny_Call_Name_kw (nameG_ok G F hg e (Calls.callWith_function (o:=o) (fd:=fd) (evArgs_ok Sx rm h1 F K fun vs h' tk k rs => ⟨⟨(F.base.trans k).same ho hc,hd⟩,
  call A { s with heap:=h',toks:=tk } O vs Q E rm (F.base.trans k) (F.F.old.keep k) F.onew rs (K.keep k) (fun d'' e' v s' p => by cases e';exact hQ v s' (post_trans rfl k p)) (fun x e' => nomatch e')⟩)))
end
end
end
section
variable [bs : Base]
variable {qt : Bool}
set_option tactic.hygienic true in
theorem setV_lookup (x : Str) (d : PyData) (y : Str) (ρ : Vars) : (setV ρ x d).lookup y = if y = x then some d else ρ.lookup y:=by
 induction ρ with
 | nil => exact lookup_cons_eq ..
 | cons p r ih =>
  show (if x = p.1 then (x,d) :: r else p :: setV r x d).lookup y = if y = x then some d else (p :: r).lookup y
  rw [lookup_cons_eq]
  split
  ·rename_i h
   rw [lookup_cons_eq,← h]
   split <;> rfl
  ·rename_i h
   rw [lookup_cons_eq,ih]
   split
   ·rename_i q;rw [if_neg fun e => h (e.symm.trans q)]
   ·rfl
section
variable {prog : Program} {w : World} {T : Tab} {hb : Heap} {mg mb : Str → Option Value} {cl : Str → Option Value} {n : Nat} {A : Around} {s : Shared} {env : Env} {sc : Names} {hF : Heap} {O : Addr → Prop} {ρ : Vars} {E : Value → Shared → Prop} {r : Evs}
theorem Fx.other {O' : Addr → Prop} {h : Heap} (F : Fx prog w hb sc hF O h env ρ) (hO : ∀ a,O a → O' a) (hn : ∀ a,O' a → O a ∨ h.get? a = none ∨ ∃ o,h.get? a = some o ∧ ¬ Tree o) (on : ∀ a,O' a → hb.get? a = none) (old : Old O' h) : Fx prog w hb sc hF O' h env ρ :=
 ⟨F.F.other hO (fun v d ζ rp => rp.otherC fun a o e t nO z => by
  rcases hn a z with q | q | ⟨o',e',nt⟩
  ·exact nO q
  ·rw [q] at e;cases e
  ·rw [e'] at e;obtain rfl:=Option.some.inj e;exact nt t) old,F.kb,on⟩
theorem Fx.vars {ρ' : Vars} {h : Heap} (F : Fx prog w hb sc hF O h env ρ) (hv : ∀ x d,ρ'.lookup x = some d → ρ.lookup x = some d) : Fx prog w hb sc hF O h env ρ':=⟨F.F.vars hv,F.kb,F.onew⟩
theorem Fx.store (F : Fx prog w hb sc hF O s.heap env ρ) {x : Str} {v : Value} {d : PyData} (hx : isOwn (sc.lookup x) = true) (rv : Rep prog w O s.heap v d) {Q : Unit → Shared → Prop}
  (h : ∀ h' tk,Fx prog w hb sc hF O h' env (setV ρ x d) → KeepBut (OwnS hF O env) s.heap h' → Kept env sc [x] s.heap h' → VarIs h' env sc x v → Q () { s with heap:=h',toks:=tk }) : wpAny (model prog w) A (storeName env x v) Q E s :=
 F.F.store (isOwn_cases hx) rv fun h' tk F' k lc vi => h h' tk (Fx.vars ⟨F',F.kb,F.onew⟩ fun y e hy => by
  rw [setV_lookup] at hy
  rw [lookup_cons_eq];exact hy) k lc vi
theorem nameOf_inv {e : Expr} {x : Str} (h : nameOf e = some x) : ∃ p,e = .Name x p:=by
 refine of_elim (P:=fun x => ∃ p,e = .Name x p) ?_ h
 cases e with
 | Name y p => exact ⟨p,rfl⟩
 | _ => trivial
theorem tupOf_inv {e : Expr} {es : List Expr} (h : tupOf e = some es) : ∃ k p,e = .Tuple es k p:=by
 refine of_elim (P:=fun es => ∃ k p,e = .Tuple es k p) ?_ h
 cases e with
 | Tuple fs k p => exact ⟨k,p,rfl⟩
 | _ => trivial
theorem bindAll_inv {e : Expr} {es : List Expr} {ds : List PyData} {ρ' : Vars} (h : bindT.bindAll sc (e :: es) ds ρ = some ρ') : ∃ x p d ds',e = .Name x p ∧ ds = d :: ds' ∧ isOwn (sc.lookup x) = true ∧ bindT.bindAll sc es ds' (setV ρ x d) = some ρ':=by
 cases ds with
 | nil => exact nomatch h
 | cons d ds' => exact let ⟨x,h1,h⟩:=bMp h;let ⟨p,e⟩:=nameOf_inv h1;let ⟨h2,h⟩:=ite_inv h;⟨x,p,d,ds',e,rfl,h2,h⟩
theorem bindAll_nil {ds : List PyData} {ρ' : Vars} (h : bindT.bindAll sc [] ds ρ = some ρ') : ds = [] ∧ ρ = ρ':=by
 cases ds with
 | nil => exact ⟨rfl,Option.some.inj h⟩
 | cons => exact nomatch h
theorem bindAll_ok (es : List Expr) (ds : List PyData) (vs : List Value) (ρ ρ' : Vars) (s : Shared) (Q : Unit → Shared → Prop) (h : bindT.bindAll sc es ds ρ = some ρ') (F : Fx prog w hb sc hF O s.heap env ρ) (rs : RepAll prog w O s.heap vs ds)
  (hQ : ∀ h' tk,Fx prog w hb sc hF O h' env ρ' → KeepBut (OwnS hF O env) s.heap h' → Kept env sc (es.filterMap nameOf) s.heap h' → Q () { s with heap:=h',toks:=tk }) :
  wpAny (model prog w) A (assignInOrder ((assignEach es env).map (·.2)) vs) Q E s:=by
 induction es generalizing ds vs ρ s Q with
 | nil =>
  obtain ⟨rfl,rfl⟩:=bindAll_nil h
  rw [show vs = [] from rs.is]
  exact wpAny_pure (hQ s.heap s.toks F (KeepBut.refl _ _) (let ⟨m,hn,_⟩:=F.F.ns;.of_keep hn (Keep.refl _)))
 | cons e es ih =>
  obtain ⟨x,p,d,ds',rfl,rfl,hx,h⟩:=bindAll_inv h
  obtain ⟨v,us,rfl,rv,rs⟩:=rs.is
  show wpAny _ _ (do holding us (assign (.Name x p) env v);assignInOrder ((assignEach es env).map (·.2)) us) Q E s
  exact wpAny_bind (wpAny_holding (wpAny_assign_Name (F.store hx rv fun h' tk F' k lc ζ =>
   ih ds' us _ _ _ h F' (rs.keepBut k.of_ownS.of_own) fun h'' tk' F'' k' lc' => hQ h'' tk' F'' (k.trans k') (lc.trans lc'))))
theorem each_names {es : List Expr} {ds : List PyData} {ρ ρ' : Vars} (h : bindT.bindAll sc es ds ρ = some ρ') : (assignEach es env).length = ds.length ∧ (assignEach es env).findIdx? (·.1) = none:=by
 induction es generalizing ds ρ with
 | nil => rw [(bindAll_nil h).1];exact ⟨rfl,rfl⟩
 | cons e es ih =>
  obtain ⟨x,p,d,ds',rfl,rfl,hx,h⟩:=bindAll_inv h
  obtain ⟨i1,i2⟩:=ih h
  refine ⟨congrArg (· + 1) i1,?_⟩
  show List.findIdx? _ ((false,assign (.Name x p) env) :: assignEach es env) = none
  rw [List.findIdx?_cons,i2]
  rfl
set_option tactic.hygienic true in
theorem bindT_inv {target : Expr} {d : PyData} {ρ' : Vars} (h : bindT sc target d ρ = some ρ') :
  (∃ x p,target = .Name x p ∧ isOwn (sc.lookup x) = true ∧ ρ' = setV ρ x d) ∨ ∃ es k p ds,target = .Tuple es k p ∧ d = .tuple ds ∧ bindT.bindAll sc es ds ρ = some ρ':=by
 unfold bindT at h
 split at h
 ·rename_i x hx
  obtain ⟨p,e⟩:=nameOf_inv hx
  obtain ⟨h1,h2⟩:=ite_inv h
  exact .inl ⟨x,p,e,h1,(Option.some.inj h2).symm⟩
 ·obtain ⟨es,h1,h⟩:=bMp h
  obtain ⟨ds,h2,h⟩:=bMp h
  obtain ⟨k,p,e⟩:=tupOf_inv h1
  exact .inr ⟨es,k,p,ds,e,asTuple_inv h2,(ite_inv h).2⟩
theorem bindT_ok {target : Expr} (hh : nameOf target = none → A.handled = none) {d : PyData} {ρ' : Vars} {v : Value} (h : bindT sc target d ρ = some ρ') (F : Fx prog w hb sc hF O s.heap env ρ) (rv : Rep prog w O s.heap v d) {Q : Unit → Shared → Prop}
  (hQ : ∀ h' tk,Fx prog w hb sc hF O h' env ρ' → KeepBut (OwnS hF O env) s.heap h' → Kept env sc (namesT target) s.heap h' → Q () { s with heap:=h',toks:=tk }) : wpAny (model prog w) A (assign target env v) Q E s:=by
 rcases bindT_inv h with ⟨x,p,rfl,hx,rfl⟩ | ⟨es,k,p,ds,rfl,rfl,hb⟩
 ·exact wpAny_assign_Name (F.store hx rv fun h' tk F' k lc ζ => hQ h' tk F' k lc)
 ·refine rv.tupleE fun a vs ζ l rs => ?_
  obtain ⟨l1,l2⟩:=each_names (env:=env) hb
  rw [PyProof.Rows.assign_Tuple]
  refine wpAny_bind (wpAny_standAt (unpack_tuple (hh rfl) l.isTuple (by rw [l1,List.size_toArray,rs.length]) l2 fun h' k => ?_))
  have kp : Keep s.heap h':=.of fun b o e => k b o (Nat.ne_of_lt (Heap.lt_size e)) e
  exact bindAll_ok es ds vs ρ ρ' _ Q hb (F.keeps kp) (rs.keep kp) fun h'' tk F'' k' lc => hQ h'' tk F'' (kp.but.trans k') ((let ⟨m,hn,_⟩:=F.F.ns;Kept.of_keep hn kp).trans lc)
end
end
section
variable [bs : Base]
section
variable {prog : Program} {w : World} {T : Tab} {hb : Heap} {mg mb : Str → Option Value} {cl : Str → Option Value} {n : Nat} {A : Around} {s : Shared} {env : Env} {sc : Names} {hF : Heap} {O : Addr → Prop} {ρ : Vars} {E : Value → Shared → Prop} {r : Evs}
theorem folded_ok {e : Expr} (h : isSet e = false) (x : Value) : foldedSetIterable e env x = pure x:=by
 cases e with
 | Set => exact nomatch h
 | _ => rfl
theorem iterE_set {e : Expr} {ds : List PyData} (h : iterE r sc ρ e = some ds) : isSet e = false:=by
 cases e with
 | Set =>
  unfold iterE at h
  split at h <;> exact nomatch h
 | _ => rfl
theorem tests_skip (es : List Expr) {Q : Bool → Shared → Prop} (h : Q false s) :
  wpAny (model prog w) A (forIn es false fun c r => if r = true then (do let ok ← isTrue c env (eval c env);pure (ForInStep.yield ok)) else pure (ForInStep.yield r)) Q E s:=by
 induction es with
 | nil => exact wpAny_pure h
 | cons e es ih => rw [List.forIn_cons];exact wpAny_bind (wpAny_pure ih)
theorem callV_inv {e : Expr} {c : Expr × List Expr × Pos} (h : callV e = some c) : e = .Call c.1 c.2.1 [] c.2.2:=by
 refine of_elim (P:=fun c => e = .Call c.1 c.2.1 [] c.2.2) ?_ h
 cases e with
 | Call f as ks q => cases ks <;> trivial
 | _ => trivial
theorem callOf_inv {e : Expr} {p : Str × List Expr} (h : callOf e = some p) : ∃ np pos,e = .Call (.Name p.1 np) p.2 [] pos:=by
 obtain ⟨c,h1,h⟩:=bMp h
 obtain ⟨x,h2,rfl⟩:=oMp h
 obtain ⟨np,e⟩:=nameOf_inv h2
 exact ⟨np,c.2.2,by rw [callV_inv h1,e]⟩
theorem bltArg_inv {b : String} {e a : Expr} (h : bltArg b sc e = some a) : ∃ f np pos,e = .Call (.Name f np) [a] [] pos ∧ sc.lookup f = some .globalImplicit ∧ blts.lookup f = some b ∧ isStar a = false:=by
 obtain ⟨⟨f,as⟩,h1,h⟩:=bMp h
 obtain ⟨np,pos,rfl⟩:=callOf_inv h1
 cases as with
 | nil => exact nomatch h
 | cons a' t =>
  cases t with
  | cons => exact nomatch h
  | nil =>
   obtain ⟨hc,e⟩:=ite_inv h
   obtain rfl:=Option.some.inj e
   exact ⟨f,np,pos,rfl,hc⟩
set_option tactic.hygienic true in
theorem iterE_inv {e : Expr} {ds : List PyData} (hs : r.still = false) (h : iterE r sc ρ e = some ds) : ((r.ex sc ρ e).bind itemsOf) = some ds ∨ ∃ a d,bltArg "range" sc e = some a ∧ r.ex sc ρ a = some d ∧
   ((asInt d).bind fun n => if -1048576 ≤ n ∧ n ≤ 1048576 then some ((List.range n.toNat).map fun (i : Nat) => PyData.int (i : Int)) else none) = some ds:=by
 unfold iterE at h
 rw [if_neg (Bool.eq_false_iff.mp hs)] at h
 split at h
 ·rename_i a ha
  obtain ⟨d,h1,h⟩:=bMp h
  exact .inr ⟨a,d,ha,h1,h⟩
 ·exact .inl (ite_inv' h).2
section
variable (G : Gl prog w T hb mg mb) (Sx : ExOk prog w hb r.still n r.ex) (St' : TrOk prog w hb r.still n r.tr) (rm : Rm r.still hb n A)
include Sx rm in
theorem iterP_ok {e : Expr} {ds : List PyData} (hs : r.still = false) (h : ((r.ex sc ρ e).bind fun d => itemsOf d) = some ds) (F : Fx prog w hb sc hF O s.heap env ρ) (K : Stk hb A s.heap) {Q : Value → Shared → Prop}
  (hQ : ∀ I h' tk St,Keep s.heap h' → s.heap.get? I = none → (∀ tg,It prog w A tg O h' I (· = I) ds St) → St 0 h' → Q (.ref I) { s with heap:=h',toks:=tk }) :
  wpAny (model prog w) A (eval e env) (fun x s₁ => wpAny (model prog w) A (pyIter x) Q E s₁) E s:=by
 obtain ⟨d,h1,h⟩:=bMp h
 refine Sx sc ρ e d h1 A s env hF O _ _ rm F K fun v s₁ p => ?_
 obtain ⟨h₁,tk₁,rfl,k1,r1⟩:=p
 exact iter_rule (rm.hand hs) (fun I h' St k2 hI it st => hQ I h' tk₁ St (k1.trans k2) (k1.none hI) it st) r1 h
include G Sx rm in
theorem iterE_ok {e : Expr} {ds : List PyData} (h : iterE r sc ρ e = some ds) (F : Fx prog w hb sc hF O s.heap env ρ) (K : Stk hb A s.heap) {Q : Value → Shared → Prop}
  (hQ : ∀ I h' tk St,Keep s.heap h' → s.heap.get? I = none → (∀ tg,It prog w A tg O h' I (· = I) ds St) → St 0 h' → Q (.ref I) { s with heap:=h',toks:=tk }) :
  wpAny (model prog w) A (eval e env) (fun x s₁ => wpAny (model prog w) A (pyIter x) Q E s₁) E s:=by
 by_cases hs : r.still = true
 ·unfold iterE at h
  rw [if_pos hs] at h
  obtain ⟨d,h1,h⟩:=bMp (ite_inv' h).2
  rw [asList_inv h] at h1
  refine Sx sc ρ e _ h1 A s env hF O _ _ rm F K fun v s₁ p => ?_
  obtain ⟨h₁,tk₁,rfl,k1,r1⟩:=p
  exact iter_listQ (s:={ s with heap:=h₁,toks:=tk₁ }) rm.hok (F.base.trans k1) F.onew r1 fun I h' St k2 hI it st => hQ I h' tk₁ St (k1.trans k2) (k1.none hI) it st
 have hs:=Bool.eq_false_iff.mpr hs
 rcases iterE_inv hs h with h | ⟨a,d,ha,h1,h2⟩
 ·exact iterP_ok Sx rm hs h F K hQ
 ·obtain ⟨f,np,pos,rfl,hg,hb',hst⟩:=bltArg_inv ha
  have hl:=evList_one hst h1
  refine wpAny_Call_Name_kw (nameB_ok G F hg hb' (callWith_blt (any_false hl) (evArgs_ok Sx rm hl F K fun vs h' tk k rs => rs.oneE fun u r1 => asInt_rule r1 h2 fun m t h => ?_)))
  obtain ⟨hb',h⟩:=ite_inv h
  obtain rfl:=Option.some.inj h
  exact call_range_1 (range_rule (O:=O) (rm.hand hs) (Heap.get?_push_size _ rfl) hb'.1 hb'.2 fun I h'' St k2 hI it st => hQ I h'' _ St ((k.trans (Keep.push _ _)).trans k2) ((k.trans (Keep.push _ _)).none hI) it st)
include St' rm in
theorem testsE_ok (es : List Expr) (b : Bool) (h : testsE r sc ρ es = some b) (s : Shared) (Q : Bool → Shared → Prop) (F : Fx prog w hb sc hF O s.heap env ρ) (K : Stk hb A s.heap) (hQ : ∀ s',PostB s s' → Q b s') : wpAny (model prog w) A (testsOf es env) Q E s:=by
 induction es generalizing s Q with
 | nil => obtain rfl:=Option.some.inj h;exact wpAny_pure (hQ s ⟨s.heap,s.toks,rfl,Keep.refl _⟩)
 | cons e es ih =>
  obtain ⟨c,h1,h⟩:=bMp h
  unfold testsOf
  rw [List.forIn_cons]
  refine wpAny_bind (wpAny_bind (St' sc ρ e c h1 A s env hF O _ _ rm F K fun s₁ p => wpAny_pure ?_))
  obtain ⟨h₁,tk₁,rfl,k1⟩:=p
  cases c with
  | true => exact ih h _ Q (F.keeps k1) (K.keep k1) fun s' ⟨h₂,tk₂,e2,k2⟩ => hQ s' ⟨h₂,tk₂,e2,k1.trans k2⟩
  | false => obtain rfl:=Option.some.inj h;exact tests_skip es (hQ _ ⟨h₁,tk₁,rfl,k1⟩)
end
theorem bindAll_keeps {es : List Expr} {ds : List PyData} {ρ ρ' : Vars} (h : bindT.bindAll sc es ds ρ = some ρ') (y : Str) (hy : ∀ x ∈ es.filterMap nameOf,y ≠ x) : ρ'.lookup y = ρ.lookup y:=by
 induction es generalizing ds ρ with
 | nil => rw [(bindAll_nil h).2]
 | cons e es ih =>
  obtain ⟨x,p,d,ds',rfl,rfl,hx,h⟩:=bindAll_inv h
  exact (ih h fun z hz => hy z (List.mem_cons_of_mem _ hz)).trans ((setV_lookup ..).trans (if_neg (hy x List.mem_cons_self)))
theorem bindT_keeps {target : Expr} {d : PyData} {ρ ρ' : Vars} (h : bindT sc target d ρ = some ρ') (hn : (namesT target).all (fun x => (ρ.lookup x).isNone) = true) : ∀ y e,ρ.lookup y = some e → ρ'.lookup y = some e:=by
 intro y e hy
 have hne : ∀ x ∈ namesT target,y ≠ x:=fun x hx q => by
  have:=List.all_eq_true.mp hn x hx
  rw [← q,hy] at this
  exact nomatch this
 rcases bindT_inv h with ⟨x,p,rfl,hx,rfl⟩ | ⟨es,k,p,ds,rfl,rfl,hb⟩
 ·exact ((setV_lookup ..).trans (if_neg (hne x List.mem_cons_self))).trans hy
 ·exact (bindAll_keeps hb y hne).trans hy
end
end
section
variable [bs : Base]
section
variable {prog : Program} {w : World} {T : Tab} {hb : Heap} {mg mb : Str → Option Value} {cl : Str → Option Value} {n : Nat} {A : Around} {r : Evs}
structure AccOk (D : Addr) {β : Type} (AccI : (Addr → Prop) → Heap → β → Prop) : Prop where
 grow : ∀ (O O' : Addr → Prop) h acc,AccI O h acc → (∀ a,O' a → O a ∨ h.get? a = none ∨ ∃ o,h.get? a = some o ∧ ¬ Tree o) → AccI O' h acc
 frame : ∀ (O : Addr → Prop) h h' acc,AccI O h acc → KeepBut O h h' → (∀ o,h.get? D = some o → h'.get? D = some o) → AccI O h' acc
 cls : ∀ (O : Addr → Prop) h acc,AccI O h acc → ∃ o,h.get? D = some o ∧ Tree o
noncomputable def ChgC (hF : Heap) (O : Addr → Prop) (env : Env) (D : Addr) (J : Addr → Prop) (a : Addr) : Prop:=OwnS hF O env a ∨ a = D ∨ J a
variable {sc : Names} {hF : Heap} {env : Env} {D : Addr} {β : Type} {AccI : (Addr → Prop) → Heap → β → Prop} {emitD : Vars → β → Option β} {emit : Sem Unit} {e : Expr} {gens : List Comprehension}
noncomputable def EmitOk (prog : Program) (w : World) (hb : Heap) (A : Around) (sc : Names) (hF : Heap) (env : Env) (D : Addr) {β : Type} (AccI : (Addr → Prop) → Heap → β → Prop) (emitD : Vars → β → Option β) (emit : Sem Unit) : Prop :=
 ∀ ρ acc acc',emitD ρ acc = some acc' → ∀ (s : Shared) (O : Addr → Prop) (Q : Unit → Shared → Prop),Fx prog w hb sc hF O s.heap env ρ → O D → ¬ Sl env D → hF.get? D = none → Stk hb A s.heap → AccI O s.heap acc →
  (∀ h' tk,Fx prog w hb sc hF O h' env ρ → AccI O h' acc' → KeepBut (· = D) s.heap h' → Q () { s with heap:=h',toks:=tk }) → wpAny (model prog w) A emit Q (fun ζ ζ => False) s
theorem old_chg {O J : Addr → Prop} {h h' : Heap} (old : Old O h) (k : KeepBut J h h') (he : ∀ b,J b → ∃ o,h'.get? b = some o) : Old O h':=fun a z => by
 by_cases q : J a
 ·exact he a q
 ·obtain ⟨o,ho⟩:=old a z
  exact let ⟨o',ho',_⟩:=k a o q ho;⟨o',ho'⟩
theorem keep_chg {J : Addr → Prop} {h h' : Heap} (kF : Keep hF h) (hn : ∀ b,J b → hF.get? b = none) (k : KeepBut J h h') : Keep hF h':=fun b o eb =>
 let ⟨_,eo,al⟩:=kF b o eb;let ⟨o'',eo',al'⟩:=k b _ (fun q => nomatch eb.symm.trans (hn b q)) eo;⟨o'',eo',al.trans al'⟩
theorem Fx.chgJ {O J : Addr → Prop} {h h' : Heap} {ρ : Vars} (F : Fx prog w hb sc hF O h env ρ) (hJ : ∀ b,J b → O b) (hS : ∀ b,J b → ¬ Sl env b) (hn : ∀ b,J b → hF.get? b = none) (k : KeepBut J h h') (he : ∀ b,J b → ∃ o,h'.get? b = some o) : Fx prog w hb sc hF O h' env ρ :=
 ⟨F.F.changed (k.mono hJ) (fun a o z ho => k a o (fun q => hS a q z) ho) (keep_chg F.F.keep hn k) (old_chg F.F.old k he),F.kb,F.onew⟩
theorem Fx.chgD {O : Addr → Prop} {h h' : Heap} {ρ : Vars} (F : Fx prog w hb sc hF O h env ρ) (hD : O D) (hS : ¬ Sl env D) (hn : hF.get? D = none) (k : KeepBut (· = D) h h') (he : ∃ o,h'.get? D = some o) : Fx prog w hb sc hF O h' env ρ :=
 F.chgJ (J:=(· = D)) (fun ζ q => q ▸ hD) (fun ζ q => q ▸ hS) (fun ζ q => q ▸ hn) k fun ζ q => q ▸ he
noncomputable def LessJ (O J : Addr → Prop) (a : Addr) : Prop:=O a ∧ ¬ J a
noncomputable abbrev Less (O : Addr → Prop) (I : Addr) : Addr → Prop:=LessJ O (· = I)
theorem Fx.dropJ {O J : Addr → Prop} {h h' : Heap} {ρ : Vars} (F : Fx prog w hb sc hF O h env ρ) (hJ : ∀ b,J b → O b) (hS : ∀ b,J b → ¬ Sl env b) (hn : ∀ b,J b → hF.get? b = none) (k : KeepBut J h h') : Fx prog w hb sc hF (LessJ O J) h' env ρ :=
 ⟨F.F.go (fun a o z ho => k a o (fun q => hS a q z) ho) (fun a z => ⟨F.F.slot z,fun q => hS a q z⟩) (fun x v d ζ r => (r.keepBut (k.mono hJ)).less fun a z => z.1) (keep_chg F.F.keep hn k)
  (fun a z => let ⟨o,ho⟩:=F.F.old a z.1;let ⟨o',ho',_⟩:=k a o z.2 ho;⟨o',ho'⟩),F.kb,fun a z => F.onew a z.1⟩
theorem Fx.dropI {O : Addr → Prop} {h h' : Heap} {ρ : Vars} {I : Addr} (F : Fx prog w hb sc hF O h env ρ) (hI : O I) (hS : ¬ Sl env I) (hn : hF.get? I = none) (k : KeepBut (· = I) h h') : Fx prog w hb sc hF (Less O I) h' env ρ :=
 F.dropJ (J:=(· = I)) (fun ζ q => q ▸ hI) (fun ζ q => q ▸ hS) (fun ζ q => q ▸ hn) k
theorem Stk.chg {h h' : Heap} {C : Addr → Prop} (x : Stk hb A h) (k : KeepBut C h h') (hC : ∀ a,C a → ∀ o es ep,h.get? a = some o → o.cls = .type "frame" → o.data = .dict es ep → ∃ o',h'.get? a = some o' ∧ o'.cls = .type "frame" ∧ ∃ es ep,o'.data = .dict es ep) : Stk hb A h':=by
 obtain ⟨l,e,f,lk⟩:=x
 refine ⟨l,e,fun env hm => ?_,lk⟩
 obtain ⟨h1,L,o,es,ep,h2,h3,h4,h5,h6⟩:=f env hm
 by_cases q : C L
 ·obtain ⟨o',e',c',es',ep',d'⟩:=hC L q o es ep h4 h5 h6
  exact ⟨h1,L,o',es',ep',h2,h3,e',c',d'⟩
 ·obtain ⟨o',e',al⟩:=k L o q h4
  exact ⟨h1,L,o',es,ep,h2,h3,e',al.cls.trans h5,al.data.trans h6⟩
section
variable (G : Gl prog w T hb mg mb) (Sx : ExOk prog w hb r.still n r.ex) (St' : TrOk prog w hb r.still n r.tr) (rm : Rm r.still hb n A) (K0 : Stk hb A hF)
 (ha : AccOk D AccI) (he : EmitOk prog w hb A sc hF env D AccI emitD emit) (hD1 : ¬ Sl env D) (hD2 : hF.get? D = none)
 (c : CompShape env (.ref D) e gens emit) (hgens : ∀ g' ∈ gens,g'.is_async = 0 ∧ ∀ x,foldedSetIterable g'.iter env x = pure x) (htgs : ∀ g' ∈ gens,nameOf g'.target = none → r.still = false)
noncomputable def InnerOk (prog : Program) (w : World) (hb : Heap) (A : Around) (sc : Names) (hF : Heap) (env : Env) (D : Addr) {β : Type} (AccI : (Addr → Prop) → Heap → β → Prop) (ok : Vars → β → Option β)
  (R : Vars → (Shared → Prop) → Shared → Prop) : Prop :=
 ∀ ρ acc acc',ok ρ acc = some acc' → ∀ (s : Shared) (O : Addr → Prop) (Q : Shared → Prop),Fx prog w hb sc hF O s.heap env ρ → O D → AccI O s.heap acc →
  (∀ h' tk,Fx prog w hb sc hF O h' env ρ → AccI O h' acc' → KeepBut (fun a => OwnS hF O env a ∨ a = D) s.heap h' → Q { s with heap:=h',toks:=tk }) → R ρ Q s
include St' rm K0 ha hD1 hD2 c hgens htgs in
theorem clause_ok {g : Comprehension} {depth : Nat} (hg : gens[depth]? = some g) (ρ : Vars) (inner : Vars → β → Option β) (hnames : (namesT g.target).all (fun x => (ρ.lookup x).isNone) = true)
  (hin : InnerOk prog w hb A sc hF env D AccI inner (fun ζ Q s₄ => match gens[depth + 1]? with
      | some g' => wpAny (model prog w) A (eval g'.iter env) (fun x s₅ => wpAny (model prog w) A (pyIter x) (fun it' s₆ =>
        codeAny (model prog w) A (.compStart e (depth + 1) it' (.ref D) env) (fun r s₇ => match r with | .ok _ => Q s₇ | .error _ => False) s₆)
        (fun ζ ζ => False) s₅) (fun ζ ζ => False) s₄
      | none => wpAny (model prog w) A emit (fun ζ s₅ => Q s₅) (fun ζ ζ => False) s₄))
  {OI J : Addr → Prop} {h₀ : Heap} {I : Addr} {all : List PyData} {St : Nat → Heap → Prop} (it : It prog w A g.target OI h₀ I J all St) (hID : ¬ J D) (hSI : ∀ b,J b → ¬ Sl env b) (hFI : ∀ b,J b → hF.get? b = none)
  (ds : List PyData) (acc acc' : β) (h : clauseGo r sc ρ g.target g.ifs inner ds acc = some acc') (s : Shared) (O : Addr → Prop) (i : Nat) (R : Result → Shared → Prop)
   (hdrop : all.drop i = ds) (hile : i ≤ all.length) (st : St i s.heap) (gr : Grow OI h₀ J O) (kb : KeepBut O h₀ s.heap) (F : Fx prog w hb sc hF O s.heap env ρ) (hD : O D) (ai : AccI O s.heap acc)
   (hR : ∀ h' tk,Fx prog w hb sc hF (LessJ O J) h' env ρ → AccI (LessJ O J) h' acc' → KeepBut (ChgC hF O env D J) s.heap h' → R (.ok .next) { s with heap:=h',toks:=tk }) :
   codeAny (model prog w) A (.compLoop e depth (.ref I) (.ref D) env) R s:=by
 have keepD : ∀ {C O : Addr → Prop} {h h' : Heap} {acc : β},AccI O h acc → KeepBut C h h' → ¬ C D → ∀ o,h.get? D = some o → h'.get? D = some o:=fun ai k nC o ho => by
  obtain ⟨o',ho',t⟩:=ha.cls _ _ _ ai
  cases ho.symm.trans ho'
  exact k.same nC ho t.not
 refine compLoop_step c hg (hgens g (List.mem_of_getElem? hg)).1 hgens ?_
 induction ds generalizing acc s O i with
 | nil =>
  have e : acc = acc':=Option.some.inj h
  subst e
  have hie : i = all.length:=Nat.le_antisymm hile (List.drop_eq_nil_iff.mp hdrop)
  subst hie
  exact it.done s _ _ st fun h' tk k => hR h' tk (F.dropJ gr.self hSI hFI k) (ha.grow O _ h' acc (ha.frame O s.heap h' acc ai (k.mono gr.self) (keepD ai k hID)) fun a (z : LessJ O J a) => .inl z.1) (k.mono fun a q => .inr (.inr q))
 | cons d ds ih =>
  have hd : all[i]? = some d:=by rw [← List.head?_drop,hdrop];rfl
  have hilt : i < all.length:=(List.getElem?_eq_some_iff.mp hd).1
  have hdrop' : all.drop (i + 1) = ds:=by rw [← List.tail_drop,hdrop];rfl
  obtain ⟨ρ',hb1,h⟩:=bMp h
  obtain ⟨b,hb2,h⟩:=bMp h
  refine it.turn i d s _ _ _ _ O gr F.F.old kb hd st fun v h₂ tk₂ rv st₂ k12 => ?_
  have F₂ : Fx prog w hb sc hF O h₂ env ρ:=F.chgJ gr.self hSI hFI k12 fun b q => let ⟨o,ho,_⟩:=it.ex _ _ st₂ b q;⟨o,ho⟩
  refine bindT_ok (fun hn => rm.hand (htgs g (List.mem_of_getElem? hg) hn)) hb1 F₂ rv fun h₃ tk₃ F₃ k₃ ζ => testsE_ok St' rm g.ifs b hb2 _ _ F₃ (K0.keep F₃.F.keep) fun s₄ p => ?_
  obtain ⟨h₄,tk₄,rfl,k₄⟩:=p
  have F₄:=F₃.keeps k₄
  have k24 : KeepBut (OwnS hF O env) h₂ h₄:=k₃.trans k₄.but
  have k04 : KeepBut (fun a => OwnS hF O env a ∨ J a) s.heap h₄:=(k12.mono fun a q => .inr q).trans (k24.mono fun a q => .inl q)
  have ai₄ : AccI O h₄ acc:=ha.frame O s.heap h₄ acc ai (k04.mono fun a q => q.elim (fun z => z.1.1) (gr.self a)) (keepD ai k04 fun q => q.elim (fun z => hD1 z.2) hID)
  have next : ∀ (acc₁ : β) (h₅ : Heap) (tk₅ : Nat),clauseGo r sc ρ g.target g.ifs inner ds acc₁ = some acc' → Fx prog w hb sc hF O h₅ env ρ' → AccI O h₅ acc₁ → KeepBut (fun a => OwnS hF O env a ∨ a = D) h₄ h₅ →
    codeAny (model prog w) A (.compLoop e depth (.ref I) (.ref D) env) R { s with heap:=h₅,toks:=tk₅ }:=fun acc₁ h₅ tk₅ hgo F₅ ai₅ k₅ => by
   have k25 : KeepBut (fun a => OwnS hF O env a ∨ a = D) h₂ h₅:=(k24.mono fun a q => .inl q).trans k₅
   have k05 : KeepBut (ChgC hF O env D J) s.heap h₅:=(k04.mono fun a q => q.imp id .inr).trans (k₅.mono fun a q => q.imp id .inl)
   have st₅ : St (i + 1) h₅:=it.frame (i + 1) h₂ h₅ st₂ fun b o hc hbI e => k25.same (fun q => by
    have nJ : ¬ J b:=fun z => q.elim (fun q => hSI b z q.2) fun q => hID (q ▸ z)
    rcases hbI with z | ⟨nO,o',eo⟩
    ·exact nJ z
    ·exact (gr.new b (q.elim (fun z => z.1.1) fun z => z ▸ hD)).elim nO fun z => z.elim nJ fun z => nomatch z.symm.trans eo) e hc
   exact compLoop_step c hg (hgens g (List.mem_of_getElem? hg)).1 hgens (ih acc₁ hgo _ O (i + 1) hdrop' hilt st₅ gr (kb.trans (k05.mono fun a q => q.elim (fun z => z.1.1) fun z => z.elim (fun y => y ▸ hD) (gr.self a))) (F₅.vars (bindT_keeps hb1 hnames)) hD ai₅
    fun h' tk F' ai' k' => hR h' tk F' ai' (k05.trans k'))
  cases b with
  | false => exact next acc h₄ tk₄ h F₄ ai₄ (KeepBut.refl _ _)
  | true =>
   obtain ⟨acc₁,hi1,h⟩:=bMp h
   exact hin ρ' acc acc₁ hi1 _ O _ F₄ hD ai₄ fun h₅ tk₅ F₅ ai₅ k₅ => next acc₁ h₅ tk₅ h F₅ ai₅ k₅
end
end
end
section
variable [bs : Base]
section
variable {prog : Program} {w : World} {T : Tab} {hb : Heap} {mg mb : Str → Option Value} {cl : Str → Option Value} {n : Nat} {A : Around} {r : Evs}
variable {sc : Names} {hF : Heap} {env : Env} {D : Addr} {β : Type} {AccI : (Addr → Prop) → Heap → β → Prop} {emitD : Vars → β → Option β} {emit : Sem Unit} {e : Expr} {gens : List Comprehension}
theorem Fx.slot_old {O : Addr → Prop} {h : Heap} {ρ : Vars} (F : Fx prog w hb sc hF O h env ρ) {a : Addr} (hs : Sl env a) : ∃ o,h.get? a = some o:=by
 rcases hs with rfl | ⟨x,hx⟩
 ·obtain ⟨m,⟨o,_,_,ho,_⟩,_⟩:=F.F.ns;exact ⟨o,ho⟩
 ·exact F.F.old a (F.F.ocell x a hx).1
theorem less_add {O J : Addr → Prop} (h : ∀ b,J b → ¬ O b) : LessJ (fun a => O a ∨ J a) J = O :=
 funext fun a => propext ⟨fun z => z.1.elim id fun q => absurd q z.2,fun z => ⟨.inl z,fun q => h a q z⟩⟩
theorem less_addI {O : Addr → Prop} {I : Addr} (h : ¬ O I) : Less (fun a => O a ∨ a = I) I = O:=less_add (J:=(· = I)) fun ζ q => q ▸ h
theorem Fx.addJ {O J : Addr → Prop} {h h' : Heap} {ρ : Vars} (F : Fx prog w hb sc hF O h env ρ) (k : Keep h h') (hJ : ∀ b,J b → h.get? b = none) (he : ∀ b,J b → ∃ o,h'.get? b = some o ∧ ¬ Tree o) : Fx prog w hb sc hF (fun a => O a ∨ J a) h' env ρ :=
 (F.keeps k).other (fun a z => .inl z) (fun a z => z.imp id fun z => .inr (he a z)) (fun a z => z.elim (F.onew a) fun z => F.base.none (hJ a z)) fun a z => z.elim (F.F.old.keep k a) fun z => let ⟨o,ho,_⟩:=he a z;⟨o,ho⟩
theorem Fx.addI {O : Addr → Prop} {h h' : Heap} {ρ : Vars} {I : Addr} (F : Fx prog w hb sc hF O h env ρ) (k : Keep h h') (hI : h.get? I = none) (he : ∃ o,h'.get? I = some o ∧ ¬ Tree o) : Fx prog w hb sc hF (fun a => O a ∨ a = I) h' env ρ :=
 F.addJ (J:=(· = I)) k (fun ζ q => q ▸ hI) fun ζ q => q ▸ he
variable (G : Gl prog w T hb mg mb) (Sx : ExOk prog w hb r.still n r.ex) (St' : TrOk prog w hb r.still n r.tr) (rm : Rm r.still hb n A) (K0 : Stk hb A hF)
 (ha : AccOk D AccI) (he : EmitOk prog w hb A sc hF env D AccI emitD emit) (hD1 : ¬ Sl env D) (hD2 : hF.get? D = none)
 (c : CompShape env (.ref D) e gens emit) (hgens : ∀ g' ∈ gens,g'.is_async = 0 ∧ ∀ x,foldedSetIterable g'.iter env x = pure x) (htgs : ∀ g' ∈ gens,nameOf g'.target = none → r.still = false)
include G Sx St' rm K0 ha he hD1 hD2 c hgens htgs in
theorem compGo_ok (gs : List Comprehension) (g : Comprehension) (pre : List Comprehension) (hpre : gens = pre ++ g :: gs) (ds : List PyData) (ρ : Vars) (acc acc' : β) (h : compGo r sc emitD gs g ds ρ acc = some acc')
  (s : Shared) (O OI J : Addr → Prop) (h₀ : Heap) (I : Addr) (St : Nat → Heap → Prop) (R : Result → Shared → Prop)
   (it : ∀ tg,It prog w A tg OI h₀ I J ds St) (st : St 0 s.heap) (gr : Grow OI h₀ J O) (kb : KeepBut O h₀ s.heap) (hID : ¬ J D) (hSI : ∀ b,J b → ¬ Sl env b) (hFI : ∀ b,J b → hF.get? b = none)
   (F : Fx prog w hb sc hF O s.heap env ρ) (hD : O D) (ai : AccI O s.heap acc)
   (hR : ∀ h' tk,Fx prog w hb sc hF (LessJ O J) h' env ρ → AccI (LessJ O J) h' acc' → KeepBut (ChgC hF O env D J) s.heap h' → R (.ok .next) { s with heap:=h',toks:=tk }) :
   codeAny (model prog w) A (.compLoop e pre.length (.ref I) (.ref D) env) R s:=by
 have hg : gens[pre.length]? = some g:=by rw [hpre,List.getElem?_append_right (Nat.le_refl _),Nat.sub_self];rfl
 have hgn : gens[pre.length + 1]? = gs[0]?:=by rw [hpre,List.getElem?_append_right (Nat.le_succ _),Nat.succ_eq_add_one,Nat.add_sub_cancel_left];rfl
 induction gs generalizing g pre ds ρ acc acc' s O OI J h₀ I St R with
 | nil =>
  obtain ⟨hn,h⟩:=ite_inv h
  refine clause_ok St' rm K0 ha hD1 hD2 c hgens htgs hg ρ emitD hn.1 ?_ (it _) hID hSI hFI ds acc acc' h s O 0 R rfl (Nat.zero_le _) st gr kb F hD ai hR
  rw [hgn]
  exact fun ρ' acc acc' h s O Q F hD ai hQ => he ρ' acc acc' h s O _ F hD hD1 hD2 (K0.keep F.F.keep) ai fun h' tk F' ai' k => hQ h' tk F' ai' (k.mono fun a q => .inr q)
 | cons g' gs ih =>
  obtain ⟨hn,h⟩:=ite_inv h
  refine clause_ok St' rm K0 ha hD1 hD2 c hgens htgs hg ρ _ hn.1 ?_ (it _) hID hSI hFI ds acc acc' h s O 0 R rfl (Nat.zero_le _) st gr kb F hD ai hR
  rw [hgn]
  clear hR ai hD F kb gr st h
  intro ρ' acc acc' h s O Q F hD ai hQ
  obtain ⟨ds',hi,h⟩:=bMp h
  refine iterE_ok G Sx rm hi F (K0.keep F.F.keep) fun I' h' tk St' k hI' it' st' => ?_
  have hIO : ¬ O I':=F.F.old.not hI'
  have clsD : ∃ o,s.heap.get? D = some o ∧ Tree o:=ha.cls _ _ _ ai
  have ex':=(it' g'.target).ex 0 h' st' I' rfl
  have ai' : AccI (fun a => O a ∨ a = I') h' acc:=ha.grow O _ h' acc (ha.frame O s.heap h' acc ai k.but fun o ho => (let ⟨o',ho',t⟩:=clsD;k.same ho (by cases ho.symm.trans ho';exact t.not))) fun a (z : O a ∨ a = I') => z.imp id fun (z : a = I') => .inr (z ▸ ex')
  have loop:=ih g' (pre ++ [g]) (by rw [hpre];simp) ds' ρ' acc acc' h { s with heap:=h',toks:=tk } (fun a => O a ∨ a = I') O (· = I') h' I' St' (fun r s₇ => match r with | .ok _ => Q s₇ | .error _ => False) it' st'
   ⟨fun a z => .inl z,fun a z => .inr z,fun a z => z.elim .inl fun q => .inr (.inl q)⟩ (KeepBut.refl _ _) (fun q => by obtain ⟨o,ho,_⟩:=clsD;rw [q,hI'] at ho;cases ho) (fun b q z => by obtain ⟨o,ho⟩:=F.slot_old z;rw [q,hI'] at ho;cases ho)
   (fun b q => q ▸ F.F.keep.none hI') (F.addI k hI' ex') (.inl hD) ai' (fun h₆ tk₆ F₆ ai₆ k₆ => by
    rw [less_add (J:=(· = I')) fun b q => q ▸ hIO] at F₆ ai₆
    refine hQ h₆ tk₆ F₆ ai₆ fun b o nb eb => ?_
    obtain ⟨o',eo,al⟩:=k b o eb
    have hbI : b ≠ I':=fun q => by subst q;rw [hI'] at eb;cases eb
    obtain ⟨o'',eo',al'⟩:=k₆ b o' (fun q => q.elim (fun q => nb (.inl ⟨⟨q.1.1.elim id fun z => absurd z hbI,q.1.2⟩,q.2⟩)) fun q => q.elim (fun q => nb (.inr q)) hbI) eo
    exact ⟨o'',eo',al.trans al'⟩) (by rw [List.length_append];exact hgn) (by rw [hpre,List.append_cons,List.getElem?_append_right (Nat.le_succ _),Nat.succ_eq_add_one,Nat.add_sub_cancel_left];rfl)
  rw [show (pre ++ [g]).length = pre.length + 1 from List.length_append ..] at loop
  exact compStart_step c hgn (hgens g' (List.mem_of_getElem? hgn)).1 loop ((it' g'.target).self 0 _ _ _ st' loop)
end
end
section
variable [bs : Base]
section
variable {prog : Program} {w : World} {T : Tab} {hb : Heap} {mg mb : Str → Option Value} {cl : Str → Option Value} {n : Nat} {A : Around} {r : Evs}
variable {sc : Names} {hF : Heap} {env : Env} {D : Addr}
noncomputable def AccL (prog : Program) (w : World) (D : Addr) (O : Addr → Prop) (h : Heap) (acc : List PyData) : Prop:=∃ ys,PL h D ys ∧ RepAll prog w O h ys acc
theorem accL_ok : AccOk D (AccL prog w D) where
 grow:=fun O O' h acc ⟨ys,p,rs⟩ hO => ⟨ys,p,rs.otherC fun a o e t nO z => by
  rcases hO a z with q | q | ⟨o',e',nt⟩
  ·exact nO q
  ·rw [q] at e;cases e
  ·rw [e'] at e;obtain rfl:=Option.some.inj e;exact nt t⟩
 frame:=fun O h h' acc ⟨ys,p,rs⟩ k hD => ⟨ys,p.keep hD,rs.keepBut k⟩
 cls:=fun O h acc ⟨ys,⟨m,e⟩,_⟩ => ⟨_,e,.inl rfl⟩
set_option tactic.hygienic true in
theorem emitL_ok (Sx : ExOk prog w hb r.still n r.ex) (rm : Rm r.still hb n A) {elt : Expr} :
  EmitOk prog w hb A sc hF env D (AccL prog w D) (fun ρ' (acc : List PyData) => (r.ex sc ρ' elt).bind fun d => if acc.length ≤ 1048576 then some (acc ++ [d]) else none) (emitOf elt (.ref D) env):=by
 intro ρ acc acc' h s O Q F hD hS hn K ai hQ
 obtain ⟨d,h1,h⟩:=bMp h
 split at h
 ·rename_i hlim
  obtain rfl:=Option.some.inj h
  unfold emitOf
  refine wpAny_bind (Sx sc ρ elt d h1 A s env hF O _ _ rm F K fun v s₁ p => ?_)
  obtain ⟨h₁,tk₁,rfl,k1,rv⟩:=p
  obtain ⟨ys,pl,rs⟩:=ai
  have hlen:=rs.length
  refine wpAny_bind (wpAny_list_append_plain (items:=ys.toArray) (pl.keepK k1) (fun h₂ pl₂ sb => ?_) (by rw [sizeLine_eq];simp;omega))
  refine wpAny_pure ?_
  have kD : KeepBut (· = D) h₁ h₂:=KeepBut.of_sameBut sb rfl
  have pl₂' : PL h₂ D (ys ++ [v]):=by
   obtain ⟨m,e⟩:=pl₂
   exact ⟨m,by rw [e];simp⟩
  refine hQ h₂ tk₁ ((F.keeps k1).chgD hD hS hn kD (let ⟨m,e⟩:=pl₂';⟨_,e⟩)) ⟨ys ++ [v],pl₂',?_⟩ (k1.but.trans kD)
  exact ((rs.keep k1).append (RepAll.one rv)).keepBut (kD.mono fun a q => q ▸ hD)
 ·cases h
noncomputable def AccD (prog : Program) (w : World) (D : Addr) (O : Addr → Prop) (h : Heap) (acc : List (PyData × PyData)) : Prop :=
 ∃ (ents : List (Str × Value)) (xs : List PyData),acc = (ents.map fun e => PyData.str e.1).zip xs ∧ h.DictOf (strKind prog w) D ents ∧ RepAll prog w O h (ents.map (·.2)) xs
theorem accD_ok : AccOk D (AccD prog w D) where
 grow:=fun O O' h acc ⟨ents,xs,e0,p,rs⟩ hO => ⟨ents,xs,e0,p,rs.otherC fun a o e t nO z => by
  rcases hO a z with q | q | ⟨o',e',nt⟩
  ·exact nO q
  ·rw [q] at e;cases e
  ·rw [e'] at e;obtain rfl:=Option.some.inj e;exact nt t⟩
 frame:=fun O h h' acc ⟨ents,xs,e0,p,rs⟩ k hD => ⟨ents,xs,e0,p.at hD,rs.keepBut k⟩
 cls:=fun O h acc q => by
  obtain ⟨ents,xs,e0,⟨o,es,ep,ho,hc,_⟩,_⟩:=q
  exact ⟨o,ho,.inr (.inr hc.1)⟩
set_option tactic.hygienic true in
theorem stored_rep {O : Addr → Prop} {h : Heap} {k : Str} {v : Value} {d : PyData} (rv : Rep prog w O h v d) : ∀ {ents : List (Str × Value)} {xs : List PyData},RepAll prog w O h (ents.map (·.2)) xs →
  ∃ xs',putD ((ents.map fun e => PyData.str e.1).zip xs) k d = ((stored ents k v).map fun e => PyData.str e.1).zip xs' ∧ RepAll prog w O h ((stored ents k v).map (·.2)) xs':=by
 intro ents xs rs
 have hany : ∀ {ents : List (Str × Value)} {xs : List PyData},RepAll prog w O h (ents.map (·.2)) xs → ((ents.map fun e => PyData.str e.1).zip xs).any (keyIs k) = ents.any (fun kv => kv.1 = k):=by
  intro ents
  induction ents with
  | nil => intro xs _;rfl
  | cons p r ih =>
   intro xs rs
   cases rs with | cons _ rs' =>
   simp only [List.map_cons,List.zip_cons_cons,List.any_cons,ih rs']
   congr 1
 unfold putD stored
 rw [hany rs]
 split
 ·rename_i hc
  clear hany hc
  induction ents generalizing xs with
  | nil => exact ⟨xs,rfl,rs⟩
  | cons p r ih =>
   obtain ⟨u,us,eu,rx,rs'⟩ : ∃ x ys,xs = x :: ys ∧ Rep prog w O h p.2 x ∧ RepAll prog w O h (r.map (·.2)) ys:=by
    cases xs with
    | nil => exact nomatch rs.is
    | cons x ys => obtain ⟨_,_,e,q1,q2⟩:=rs.is;cases e;exact ⟨x,ys,rfl,q1,q2⟩
   subst eu
   obtain ⟨ys,e1,e2⟩:=ih rs'
   by_cases q : p.1 = k
   ·refine ⟨d :: ys,?_,?_⟩
    ·rw [List.map_cons,List.map_cons,if_pos q,List.map_cons,List.zip_cons_cons,List.zip_cons_cons,List.map_cons,e1,if_pos (by rw [q];exact beq_self_eq_true k),q]
    ·rw [List.map_cons,if_pos q];exact .cons rv e2
   ·refine ⟨u :: ys,?_,?_⟩
    ·rw [List.map_cons,List.map_cons,if_neg q,List.map_cons,List.zip_cons_cons,List.zip_cons_cons,List.map_cons,e1,if_neg (fun z : keyIs k (PyData.str p.1,u) = true => q (beq_iff_eq.mp z))]
    ·rw [List.map_cons,if_neg q];exact .cons rx e2
 ·refine ⟨xs ++ [d],?_,?_⟩
  ·have hl : (ents.map fun e => PyData.str e.1).length = xs.length:=by have:=rs.length;simpa using this
   rw [List.map_append,List.zip_append hl];rfl
  ·rw [List.map_append];exact rs.append (RepAll.one rv)
theorem emitD_ok (Sx : ExOk prog w hb r.still n r.ex) (rm : Rm r.still hb n A) {k v : Expr} :
  EmitOk prog w hb A sc hF env D (AccD prog w D) (fun ρ' (acc : List (PyData × PyData)) => (r.ex sc ρ' k).bind fun kd => (r.ex sc ρ' v).bind fun vd => (asStr kd).bind fun x => if acc.length ≤ 1048576 then some (putD acc x vd) else none) (emitDict k v D env):=by
 intro ρ acc acc' h s O Q F hD hS hn K ai hQ
 obtain ⟨kd,h1,h⟩:=bMp h
 obtain ⟨vd,h2,h⟩:=bMp h
 unfold emitDict
 refine wpAny_bind (Sx sc ρ k kd h1 A s env hF O _ _ rm F K fun kv s₁ p => ?_)
 obtain ⟨h₁,tk₁,rfl,k1,rk⟩:=p
 refine wpAny_bind (wpAny_holding (Sx sc ρ v vd h2 A _ env hF O _ _ rm (F.keeps k1) (K.keep k1) fun vv s₂ p => ?_))
 obtain ⟨h₂,tk₂,rfl,k2,rv⟩:=p
 refine wpAny_bind (wpAny_standAt (wpAny_holding ?_))
 have k12:=k1.trans k2
 refine asStr_rule rk h fun x t e => ?_
 obtain ⟨hlim,e⟩:=ite_inv e
 obtain rfl:=Option.some.inj e
 obtain ⟨ents,xs,rfl,dd,rs⟩:=ai
 have hlen:=rs.length
 have dd₂ : h₂.DictOf (strKind prog w) D ents:=dd.at fun o ho => by
  obtain ⟨o',_,_,ho',hc,_⟩:=id dd
  cases ho.symm.trans ho'
  exact k12.same ho (by rw [hc.1];exact nofun)
 refine wpAny_dictSet_pairs (strKind_is prog w x t) dd₂ (fun h₃ dd₃ sb => ?_) (by rw [sizeLine_eq];simp at hlim hlen;omega)
 have kD : KeepBut (· = D) h₂ h₃:=KeepBut.of_sameBut sb rfl
 obtain ⟨xs',e1,e2⟩:=stored_rep (k:=x) rv (rs.keep k12)
 exact hQ h₃ _ ((F.keeps k12).chgD hD hS hn kD (let ⟨o,_,_,ho,_⟩:=dd₃;⟨o,ho⟩)) ⟨_,xs',e1,dd₃,e2.keepBut (kD.mono fun a q => q ▸ hD)⟩ (k12.but.trans kD)
end
end
section
variable [bs : Base]
section
variable {prog : Program} {w : World} {T : Tab} {hb : Heap} {mg mb : Str → Option Value} {cl : Str → Option Value} {n : Nat} {A : Around} {r : Evs}
variable {sc : Names} {hF : Heap} {env : Env} {s : Shared} {O : Addr → Prop} {ρ : Vars} {E : Value → Shared → Prop}
theorem Fx.grow {O₁ : Addr → Prop} {h h' : Heap} (F : Fx prog w hb sc hF O h env ρ) (k : Keep h h') (sub : ∀ a,O a → O₁ a) (new : ∀ a,O₁ a → O a ∨ h.get? a = none) (old : Old O₁ h') : Fx prog w hb sc hF O₁ h' env ρ :=
 ⟨F.F.go (fun a o ζ e => k a o e) (fun a z => sub a (F.F.slot z)) (fun ζ ζ ζ ζ r => (r.more new).keep k) (F.F.keep.trans k) old,F.kb,fun a z => (new a z).elim (F.onew a) F.base.none⟩
theorem FrI.older {hF' : Heap} {h : Heap} (F : FrI prog w sc hF O h env ρ) (k : Keep hF' hF) : FrI prog w sc hF' O h env ρ :=
 {F with
  cel:=fun x e => let ⟨e1,c,e2,e3⟩:=F.cel x e;⟨e1,c,e2,k.none e3⟩
  oloc:=⟨F.oloc.1,k.none F.oloc.2⟩
  keep:=k.trans F.keep }
theorem okScope_cases {scope : Scope} (h : okScope sc scope = true) : scope.kind = .function ∧ Once scope.names ∧ (∀ x,scope.names.lookup x = some .free → sc.lookup x = some .cell ∨ sc.lookup x = some .free) ∧
  scope.names.lookup (Str.ofString "__classdict__") = none ∧ scope.names.lookup (Str.ofString "__debug__") = none:=by
 unfold okScope at h
 simp only [Bool.and_eq_true,beq_iff_eq,List.all_eq_true,Option.isNone_iff_eq_none] at h
 obtain ⟨⟨⟨⟨h1,h2⟩,h3⟩,h4⟩,h5⟩:=h
 refine ⟨h1,fun x k hm => h2 (x,k) hm,fun x hx => ?_,h4,h5⟩
 have:=h3 (x,.free) (mem_of_lookup hx)
 simpa using this
variable (G : Gl prog w T hb mg mb) (Sx : ExOk prog w hb r.still n r.ex) (St' : TrOk prog w hb r.still n r.tr) (rm : Rm r.still hb n A)
variable {β : Type} {AccI : Addr → (Addr → Prop) → Heap → β → Prop} {emitD : Vars → β → Option β} {emit : Addr → Env → Sem Unit} {e : Expr} {scope : Scope} {g : Comprehension} {gs : List Comprehension} {obj : Obj} {newAcc : Sem Value}
include G Sx St' rm in
theorem comp_ok {use : Option (Value → Sem Unit)} {pos : Pos} {ds : List PyData} {acc0 acc' : β} {Q : Value → Shared → Prop} (hscope : okScope sc scope = true) (hcl : clausesOf e = g :: gs)
  (hgs : (g :: gs).all (fun g => g.is_async == 0 && !isSet g.iter && (!r.still || (nameOf g.target).isSome)) = true) (hit : iterE r sc ρ g.iter = some ds)
  (hgo : compGo r scope.names emitD gs g ds (ρ.filter fun p => scope.names.lookup p.1 == some .free) acc0 = some acc')
  (hnew : ∀ (s : Shared) (Q : Value → Shared → Prop) (E : Value → Shared → Prop),Q (.ref s.heap.objs.size) { s with heap:=s.heap.push obj } → wpAny (model prog w) A newAcc Q E s)
  (hobj : obj.isFreed = false) (htree : Tree obj)
  (hacc0 : ∀ (O : Addr → Prop) (h : Heap),AccI h.objs.size O (h.push obj) acc0)
  (ha : ∀ D,AccOk D (AccI D)) (hem : ∀ D (cenv : Env),EmitOk prog w hb A scope.names s.heap cenv D (AccI D) emitD (emit D cenv)) (hsh : ∀ D cenv,CompShape cenv (.ref D) e (g :: gs) (emit D cenv))
  (F : Fx prog w hb sc hF O s.heap env ρ) (K : Stk hb A s.heap)
  (hfin : ∀ D C h' tk (O' : Addr → Prop) m,s.heap.get? D = none → s.heap.get? C = none → C ≠ D → Keep s.heap h' → (∀ a,O a → O' a) → O' C → O' D → AccI D O' h' acc' → h'.Ns C m → compPost (model prog w) A E use Q (.ref D) C (.ok .next) { s with heap:=h',toks:=tk }) :
  wpAny (model prog w) A (comprehension e scope env pos newAcc false (firstIter (g :: gs) env) use) Q E s:=by
 obtain ⟨hk,honce,hfree,hn1,hn2⟩:=okScope_cases hscope
 have hgs' : ∀ g' ∈ g :: gs,g'.is_async = 0 ∧ isSet g'.iter = false:=fun g' hm => by
  have h:=aMp (aMp (List.all_eq_true.mp hgs g' hm)).1
  exact ⟨beq_iff_eq.mp h.1,(Bool.not_eq_true' _).mp h.2⟩
 have htgs : ∀ g' ∈ g :: gs,nameOf g'.target = none → r.still = false:=fun g' hm hn => by
  have h:=(aMp (List.all_eq_true.mp hgs g' hm)).2
  rw [hn] at h
  cases e : r.still with
  | false => rfl
  | true => rw [e] at h;cases h
 have hfc : ∀ x,(x,NameKind.free) ∈ scope.names → (env.cells.lookup x).isSome = true:=fun x hx => by
  obtain ⟨c,ov,e1,_⟩:=F.F.cell x (hfree x (honce x _ hx))
  rw [e1];rfl
 refine wpAny_comprehension_free hcl (folded_ok (hgs' g List.mem_cons_self).2) (closureFor_go hfc) hk (fun x hx hl => by
  have:=honce x.1 x.2 hx;rw [this,hl]) ?_
 have hfi : firstIter (g :: gs) env = eval g.iter env:=by cases g;rfl
 rw [hfi]
 refine iterE_ok G Sx rm hit F K fun I h₂ tk₂ St k₂ hI it st => ?_
 refine hnew _ _ _ ?_
 generalize hD : h₂.objs.size = D
 have hDn : h₂.get? D = none:=by rw [← hD];exact fresh_size _
 have kp : Keep h₂ (h₂.push obj):=Keep.push _ _
 have k₃ : Keep s.heap (h₂.push obj):=k₂.trans kp
 have hDo : (h₂.push obj).get? D = some obj:=by rw [← hD];exact Heap.get?_push_size _ hobj
 obtain ⟨oI,hoI,ntI⟩:=(it g.target).ex 0 h₂ st I rfl
 obtain ⟨oI',hoI',alI⟩:=kp I oI hoI
 have hID : I ≠ D:=fun q => by subst q;rw [hDn] at hoI;cases hoI
 have F₁ : Fx prog w hb sc hF (fun a => O a ∨ a = D ∨ a = I) (h₂.push obj) env ρ:=F.grow k₃ (fun a z => .inl z) (by
  rintro a (z | rfl | rfl)
  ·exact .inl z
  ·exact .inr (k₂.none hDn)
  ·exact .inr hI) (by
  rintro a (z | rfl | rfl)
  ·exact F.F.old.keep k₃ a z
  ·exact ⟨_,hDo⟩
  ·exact ⟨_,hoI'⟩)
 refine compEnv_rule (s:={ s with heap:=h₂.push obj,toks:=tk₂ }) F₁.F hk honce hfree hn1 hn2 fun cenv h₄ O' k₄ onew osub FI hsl => ?_
 have k04 : Keep s.heap h₄:=k₃.trans k₄
 have FI':=FI.older k₃
 have Fc : Fx prog w hb scope.names s.heap O' h₄ { cenv with scope:=relabel scope env } (ρ.filter fun p => scope.names.lookup p.1 == some .free):=⟨FI',F.base,fun a z => by
  rcases onew a z with q | q
  ·exact F₁.onew a q
  ·exact (F.base.trans k₃).none q⟩
 have hDo4 : h₄.get? D = some obj:=k₄.same hDo htree.not
 have stI : St 0 h₄:=(it g.target).frame 0 h₂ h₄ st fun b o hc ζ eb => k₄.same (kp.same eb hc) hc
 have hSD : ¬ Sl { cenv with scope:=relabel scope env } D:=fun q => by
  rcases hsl D q with z | z
  ·have z' : (h₂.push obj).get? D = none:=z
   rw [hDo] at z';cases z'
  ·obtain ⟨o,ho⟩:=F.slot_old z
   rw [k₂.none hDn] at ho;cases ho
 have hSI : ¬ Sl { cenv with scope:=relabel scope env } I:=fun q => by
  rcases hsl I q with z | z
  ·have z' : (h₂.push obj).get? I = none:=z
   rw [hoI'] at z';cases z'
  ·obtain ⟨o,ho⟩:=F.slot_old z
   rw [hI] at ho;cases ho
 have hacc4 : AccI D O' h₄ acc0:=by
  have:=hacc0 O' h₂
  rw [hD] at this
  refine (ha D).frame O' (h₂.push obj) h₄ acc0 this k₄.but fun o ho => ?_
  rw [hDo] at ho;obtain rfl:=Option.some.inj ho;exact hDo4
 have gr : Grow O h₂ (· = I) O':=⟨fun a z => osub a (.inl z),fun a z => z ▸ osub I (.inr (.inr rfl)),fun a z => by
  rcases onew a z with (q | q | q) | q
  ·exact .inl q
  ·subst q;exact .inr (.inr hDn)
  ·exact .inr (.inl q)
  ·exact .inr (.inr (kp.none q))⟩
 have loop:=compGo_ok G Sx St' rm (K) (ha D) (hem D _) hSD (k₂.none hDn) (hsh D _) (fun g' hm => ⟨(hgs' g' hm).1,folded_ok (hgs' g' hm).2⟩) htgs gs g [] rfl ds _ acc0 acc' hgo
  {s with heap:=h₄,toks:=tk₂ } O' O (· = I) h₂ I St (compPost (model prog w) A E use Q (.ref D) cenv.locals) it stI gr (kp.trans k₄).but (fun q => hID q.symm) (fun b q => q ▸ hSI) (fun b q => q ▸ hI) Fc (osub D (.inr (.inl rfl))) hacc4 fun h' tk F' ai' k' => by
   obtain ⟨m,hm,_⟩:=F'.F.ns
   refine hfin D cenv.locals h' tk (Less O' I) m (k₂.none hDn) (k₃.none FI.oloc.2) ?_ F'.F.keep (fun a z => ⟨osub a (.inl z),fun q => F.F.old.not hI (q ▸ z)⟩) F'.F.oloc.1 ⟨osub D (.inr (.inl rfl)),Ne.symm hID⟩ ai' hm
   intro q
   have:=FI.oloc.2
   rw [show ({ cenv with scope:=relabel scope env } : Env).locals = D from q,hDo] at this;cases this
 exact compStart_step (hsh D _) rfl (hgs' g List.mem_cons_self).1 loop ((it g.target).self 0 _ _ _ stI loop)
end
end
section
variable [bs : Base]
section
variable {prog : Program} {w : World} {T : Tab} {hb : Heap} {mg mb : Str → Option Value} {cl : Str → Option Value} {n : Nat} {A : Around} {r : Evs}
variable {sc : Names} {hF : Heap} {env : Env} {s : Shared} {O : Addr → Prop} {ρ : Vars} {E : Value → Shared → Prop}
theorem keep_chgC {h h' h'' : Heap} {C : Addr} (k : Keep h h') (hC : h.get? C = none) (sb : Heap.SameBut C h' h'') : Keep h h'':=fun b o e => by
 obtain ⟨o',e',al⟩:=k b o e
 exact ⟨o',sb.extBut b o' (fun q => by subst q;rw [hC] at e;cases e) e',al⟩
structure NewAt (prog : Program) (w : World) (O : Addr → Prop) (h : Heap) (C D : Addr) (d : PyData) : Prop where
 rep : Rep prog w (fun a => O a ∨ a = C) h (.ref D) d
 list : ∀ ds,d = .list ds → ∃ vs,PL h D vs ∧ RepAll prog w (fun a => O a ∨ a = C ∨ a = D) h vs ds
theorem NewAt.behind {h h' : Heap} {C D : Addr} {d : PyData} (x : NewAt prog w O h C D d) (sb : Heap.SameBut C h h') : Rep prog w O h' (.ref D) d :=
 (x.rep.keepBut (KeepBut.of_sameBut sb (.inr rfl))).less fun a z => .inl z
theorem accL_rep {h h' : Heap} {D C : Addr} {O' : Addr → Prop} {acc : List PyData} (old : Old O h) (hD : h.get? D = none) (hCD : C ≠ D) (sub : ∀ a,O a → O' a) (oC : O' C) (oD : O' D) (ai : AccL prog w D O' h' acc) :
  NewAt prog w O h' C D (.list acc):=by
 obtain ⟨ys,pl,rs⟩:=ai
 refine ⟨.list (fun z => z.elim (old.not hD) fun q => hCD q.symm) pl (rs.less fun a z => z.elim (sub a) fun q => q ▸ oC),fun ds e => ?_⟩
 cases e
 exact ⟨ys,pl,rs.less fun a z => z.elim (sub a) fun q => q.elim (fun q => q ▸ oC) fun q => q ▸ oD⟩
theorem accD_rep {h h' : Heap} {D C : Addr} {O' : Addr → Prop} {acc : List (PyData × PyData)} (old : Old O h) (hD : h.get? D = none) (hCD : C ≠ D) (sm : ∃ o,h.get? sysModules = some o) (sub : ∀ a,O a → O' a) (oC : O' C) (ai : AccD prog w D O' h' acc) :
  NewAt prog w O h' C D (.dict acc):=by
 obtain ⟨ents,xs,rfl,dd,rs⟩:=ai
 exact ⟨.dict (fun z => z.elim (old.not hD) fun q => hCD q.symm) (fun q => by obtain ⟨o,ho⟩:=sm;rw [← q,hD] at ho;cases ho) dd (rs.less fun a z => z.elim (sub a) fun q => q ▸ oC),fun ds e => nomatch e⟩
variable (G : Gl prog w T hb mg mb) (Sx : ExOk prog w hb r.still n r.ex) (St' : TrOk prog w hb r.still n r.tr) (rm : Rm r.still hb n A)
include G Sx St' rm in
theorem listComp_use {use : Option (Value → Sem Unit)} {elt : Expr} {g : Comprehension} {gs : List Comprehension} {scope : Scope} {pos pos' : Pos} {d : PyData} (h : compE r sc ρ (.ListComp elt (g :: gs) scope pos) = some d)
  (F : Fx prog w hb sc hF O s.heap env ρ) (K : Stk hb A s.heap) {Q : Value → Shared → Prop}
  (hfin : ∀ D C h' tk m,s.heap.get? D = none → s.heap.get? C = none → C ≠ D → Keep s.heap h' → NewAt prog w O h' C D d → h'.Ns C m → compPost (model prog w) A E use Q (.ref D) C (.ok .next) { s with heap:=h',toks:=tk }) :
  wpAny (model prog w) A (comprehension (.ListComp elt (g :: gs) scope pos) scope env pos' (newList []) false (firstIter (g :: gs) env) use) Q E s:=by
 obtain ⟨hs,h⟩:=ite_inv h
 obtain ⟨ds,h1,h⟩:=bMp h
 obtain ⟨acc,h2,h⟩:=bMp h
 obtain rfl:=Option.some.inj h
 refine comp_ok G Sx St' rm (AccI:=AccL prog w) (emit:=fun D cenv => emitOf elt (.ref D) cenv) (obj:={ cls:=.type "list",data:=.seq ([] : List Value).toArray }) hs.1 rfl hs.2 h1 h2
  (fun s Q E h => wpAny_newObj_type h) rfl (.inl rfl) (fun O h => ⟨[],⟨0,Heap.get?_push_size _ rfl⟩,.nil⟩) (fun D => accL_ok) (fun D cenv => emitL_ok Sx rm) (fun D cenv => .list _ _ _ _) F K ?_
 exact fun D C h' tk O' m hD hC hCD k sub oC oD ai hm => hfin D C h' tk m hD hC hCD k (accL_rep F.F.old hD hCD sub oC oD ai) hm
include G Sx St' rm in
theorem dictComp_use {use : Option (Value → Sem Unit)} {kx vx : Expr} {g : Comprehension} {gs : List Comprehension} {scope : Scope} {pos pos' : Pos} {d : PyData} (h : compE r sc ρ (.DictComp kx vx (g :: gs) scope pos) = some d)
  (F : Fx prog w hb sc hF O s.heap env ρ) (K : Stk hb A s.heap) {Q : Value → Shared → Prop}
  (hfin : ∀ D C h' tk m,s.heap.get? D = none → s.heap.get? C = none → C ≠ D → Keep s.heap h' → NewAt prog w O h' C D d → h'.Ns C m → compPost (model prog w) A E use Q (.ref D) C (.ok .next) { s with heap:=h',toks:=tk }) :
  wpAny (model prog w) A (comprehension (.DictComp kx vx (g :: gs) scope pos) scope env pos' newDict false (firstIter (g :: gs) env) use) Q E s:=by
 obtain ⟨hs,h⟩:=ite_inv h
 obtain ⟨ds,h1,h⟩:=bMp h
 obtain ⟨acc,h2,h⟩:=bMp h
 obtain rfl:=Option.some.inj h
 refine comp_ok G Sx St' rm (AccI:=AccD prog w) (emit:=fun D cenv => emitDict kx vx D cenv) (obj:={ cls:=.type "dict",data:=.dict #[] }) hs.1 rfl hs.2 h1 h2
  (fun s Q E h => wpAny_newObj_type h) rfl (.inr (.inr rfl)) (fun O h => ⟨[],[],rfl,Heap.DictOf.new h,.nil⟩) (fun D => accD_ok) (fun D cenv => emitD_ok Sx rm) (fun D cenv => .dict _ _ _ _ _ _ rfl) F K ?_
 exact fun D C h' tk O' m hD hC hCD k sub oC oD ai hm => hfin D C h' tk m hD hC hCD k (accD_rep F.F.old hD hCD (let ⟨o,ho⟩:=G.sm;let ⟨o',ho',_⟩:=F.base _ o ho;⟨o',ho'⟩) sub oC ai) hm
theorem firstAsync_ok {g : Comprehension} {gs : List Comprehension} (h : (g :: gs).all (fun g => g.is_async == 0 && !isSet g.iter && (!r.still || (nameOf g.target).isSome)) = true) : firstAsync (g :: gs) = false:=by
 have:=List.all_eq_true.mp h g List.mem_cons_self
 obtain ⟨a,b,c,d⟩:=g
 have this:=aMp (aMp this).1
 rw [beq_iff_eq] at this
 show (d != 0) = false
 rw [show d = 0 from this.1];rfl
noncomputable def NewL (prog : Program) (w : World) (O : Addr → Prop) (s s' : Shared) (v : Value) (ds : List PyData) : Prop :=
 ∃ a vs h' tk,v = .ref a ∧ s.heap.get? a = none ∧ s' = { s with heap:=h',toks:=tk } ∧ Keep s.heap h' ∧ PL h' a vs ∧ RepAll prog w (fun b => O b ∨ b = a) h' vs ds
theorem NewL.post {s' : Shared} {v : Value} {ds : List PyData} (old : Old O s.heap) (x : NewL prog w O s s' v ds) : Post prog w O s s' v (.list ds):=by
 obtain ⟨a,vs,h',tk,rfl,hn,e,k,pl,rs⟩:=x
 exact ⟨h',tk,e,k,.list (old.not hn) pl (rs.less fun b z => .inl z)⟩
include G Sx St' rm in
theorem listCompN_ok {elt : Expr} {gens : List Comprehension} {scope : Scope} {pos : Pos} {ds : List PyData} (h : compE r sc ρ (.ListComp elt gens scope pos) = some (.list ds)) (F : Fx prog w hb sc hF O s.heap env ρ) (K : Stk hb A s.heap)
  {Q : Value → Shared → Prop} (hQ : ∀ v s',NewL prog w O s s' v ds → Q v s') : wpAny (model prog w) A (eval (.ListComp elt gens scope pos) env) Q E s:=by
 cases gens with
 | nil => cases h
 | cons g gs =>
  rw [eval_ListComp]
  have ha : firstAsync (g :: gs) = false:=firstAsync_ok (ite_inv h).1.2
  rw [ha]
  refine listComp_use G Sx St' rm (use:=none) h F K fun D C h' tk m hD hC hCD k rep hm => ⟨m,hm,fun h'' sb => hQ _ _ ?_⟩
  obtain ⟨vs,pl,rs⟩:=rep.list ds rfl
  exact ⟨D,vs,h'',tk,rfl,hD,rfl,keep_chgC k hC sb,pl.keep fun o e => sb.extBut D o (Ne.symm hCD) e,(rs.keepBut (KeepBut.of_sameBut sb (.inr (.inl rfl)))).less fun a z => z.elim .inl fun q => .inr (.inr q)⟩
include G Sx St' rm in
theorem listCompE_ok {elt : Expr} {gens : List Comprehension} {scope : Scope} {pos : Pos} {d : PyData} (h : compE r sc ρ (.ListComp elt gens scope pos) = some d) (F : Fx prog w hb sc hF O s.heap env ρ) (K : Stk hb A s.heap)
  {Q : Value → Shared → Prop} (hQ : ∀ v s',Post prog w O s s' v d → Q v s') : wpAny (model prog w) A (eval (.ListComp elt gens scope pos) env) Q E s:=by
 have hd : ∃ ds,d = .list ds:=by
  cases gens with
  | nil => cases h
  | cons g gs =>
   obtain ⟨ds,h1,h⟩:=bMp (ite_inv h).2
   obtain ⟨acc,h2,h⟩:=bMp h
   exact ⟨acc,(Option.some.inj h).symm⟩
 obtain ⟨ds,rfl⟩:=hd
 exact listCompN_ok G Sx St' rm h F K fun v s' p => hQ v s' (p.post F.F.old)
include G Sx St' rm in
theorem dictCompE_ok {kx vx : Expr} {gens : List Comprehension} {scope : Scope} {pos : Pos} {d : PyData} (h : compE r sc ρ (.DictComp kx vx gens scope pos) = some d) (F : Fx prog w hb sc hF O s.heap env ρ) (K : Stk hb A s.heap)
  {Q : Value → Shared → Prop} (hQ : ∀ v s',Post prog w O s s' v d → Q v s') : wpAny (model prog w) A (eval (.DictComp kx vx gens scope pos) env) Q E s:=by
 cases gens with
 | nil => cases h
 | cons g gs =>
  show wpAny _ _ (comprehension (.DictComp kx vx (g :: gs) scope pos) scope env (firstIterPos (g :: gs) pos) newDict (firstAsync (g :: gs)) (firstIter (g :: gs) env)) Q E s
  have ha : firstAsync (g :: gs) = false:=firstAsync_ok (ite_inv h).1.2
  rw [ha]
  refine dictComp_use G Sx St' rm (use:=none) h F K fun D C h' tk m hD hC hCD k rep hm => ⟨m,hm,fun h'' sb => hQ _ _ ⟨h'',tk,rfl,keep_chgC k hC sb,rep.behind sb⟩⟩
end
end
section
variable [bs : Base]
section
variable {prog : Program} {w : World} {T : Tab} {hb : Heap} {mg mb : Str → Option Value} {cl : Str → Option Value} {n : Nat} {A : Around} {r : Evs}
variable {sc : Names} {hF : Heap} {env : Env} {s : Shared} {O : Addr → Prop} {ρ : Vars} {E : Value → Shared → Prop}
theorem postB_trans {s₁ s₂ : Shared} {h₁ : Heap} {tk : Nat} (e : s₁ = { s with heap:=h₁,toks:=tk }) (k : Keep s.heap h₁) (p : PostB s₁ s₂) : PostB s s₂:=by
 obtain ⟨h₂,tk₂,e₂,k₂⟩:=p
 subst e
 exact ⟨h₂,tk₂,e₂,k.trans k₂⟩
section
variable {qt : Bool} (Sx : ExOk prog w hb qt n r.ex) (St' : TrOk prog w hb qt n r.tr) (rm : Rm qt hb n A)
include Sx rm in
theorem boolGo_ok {op : BoolOp} {pos : Pos} (es : List Expr) (d : PyData) (h : boolGo r sc ρ op es = some d) (s : Shared) (Q : Value → Shared → Prop) (F : Fx prog w hb sc hF O s.heap env ρ) (K : Stk hb A s.heap)
  (hQ : ∀ v s',Post prog w O s s' v d → Q v s') : wpAny (model prog w) A (boolOp pos op (evalEach es env)) Q E s:=by
 induction es generalizing s Q with
 | nil => exact nomatch h
 | cons e es ih =>
  cases es with
  | nil => exact Sx sc ρ e d h A s env hF O Q E rm F K hQ
  | cons e' es =>
   obtain ⟨d1,h1,h⟩:=bMp h
   obtain ⟨b,h2,h⟩:=bMp h
   show wpAny _ _ (do
    let v ← eval e env
    standAt pos
    let t ← holding [v] (truthy v)
    match op,t with
    | .And,false | .Or,true => pure v
    | _,_ => boolOp pos op (evalEach (e' :: es) env)) Q E s
   refine wpAny_bind (Sx sc ρ e d1 h1 A s env hF O _ _ rm F K fun v s₁ p => ?_)
   obtain ⟨h₁,tk₁,rfl,k1,r1⟩:=p
   refine wpAny_bind (wpAny_standAt (wpAny_bind (wpAny_holding (truth_rule r1 h2 fun tk => ?_))))
   have rest : boolGo r sc ρ op (e' :: es) = some d → wpAny (model prog w) A (boolOp pos op (evalEach (e' :: es) env)) Q E { s with heap:=h₁,toks:=tk }:=fun h =>
    ih h _ Q (F.keeps k1) (K.keep k1) fun v s' p => hQ v s' (post_trans rfl k1 p)
   have stop : some d1 = some d → wpAny (model prog w) A (pure v) Q E { s with heap:=h₁,toks:=tk }:=fun h => wpAny_pure (hQ _ _ ⟨h₁,tk,rfl,k1,Option.some.inj h ▸ r1⟩)
   clear hQ ih h1 h2 F K
   cases op <;> cases b
   ·exact stop h
   ·exact rest h
   ·exact rest h
   ·exact stop h
include St' rm in
theorem allGo_ok {op : BoolOp} (es : List Expr) (b : Bool) (h : allGo r sc ρ op es = some b) (s : Shared) (Q : Bool → Shared → Prop) (F : Fx prog w hb sc hF O s.heap env ρ) (K : Stk hb A s.heap)
  (hQ : ∀ s',PostB s s' → Q b s') : wpAny (model prog w) A (allTrue op es env) Q E s:=by
 induction es generalizing s Q with
 | nil => obtain rfl:=Option.some.inj h;exact wpAny_pure (hQ s ⟨s.heap,s.toks,rfl,Keep.refl _⟩)
 | cons e es ih =>
  obtain ⟨c,h1,h⟩:=bMp h
  show wpAny _ _ (do
   match op,← isTrue e env (eval e env) with
   | .And,false => pure false
   | .Or,true => pure true
   | _,_ => allTrue op es env) Q E s
  refine wpAny_bind (St' sc ρ e c h1 A s env hF O _ _ rm F K fun s₁ p => ?_)
  obtain ⟨h₁,tk₁,rfl,k1⟩:=p
  have rest : allGo r sc ρ op es = some b → wpAny (model prog w) A (allTrue op es env) Q E { s with heap:=h₁,toks:=tk₁ }:=fun h =>
   ih h _ Q (F.keeps k1) (K.keep k1) fun s' p => hQ s' (postB_trans rfl k1 p)
  have stop : ∀ c,some c = some b → wpAny (model prog w) A (pure c) Q E { s with heap:=h₁,toks:=tk₁ }:=fun c h => wpAny_pure (Option.some.inj h ▸ hQ _ ⟨h₁,tk₁,rfl,k1⟩)
  clear hQ ih h1 F K
  cases op <;> cases c
  ·exact stop _ h
  ·exact rest h
  ·exact rest h
  ·exact stop _ h
end
theorem intOf_inv {e : Expr} {i : Int} (h : intOf e = some i) : ∃ k p,e = .Constant (.int i) k p:=by
 refine of_elim (P:=fun i => ∃ k p,e = .Constant (.int i) k p) ?_ h
 cases e with
 | Constant c k p => cases c with
  | int j => exact ⟨k,p,rfl⟩
  | _ => trivial
 | _ => trivial
theorem sliceOf_inv {e : Expr} {q : Option Expr × Option Expr × Option Expr} (h : sliceOf e = some q) : ∃ p,e = .Slice q.1 q.2.1 q.2.2 p:=by
 refine of_elim (P:=fun q => ∃ p,e = .Slice q.1 q.2.1 q.2.2 p) ?_ h
 cases e with
 | Slice l u st p => exact ⟨p,rfl⟩
 | _ => trivial
theorem attrOf_inv {e : Expr} {q : Expr × Str × Pos} (h : attrOf e = some q) : e = .Attribute q.1 q.2.1 q.2.2:=by
 refine of_elim (P:=fun q => e = .Attribute q.1 q.2.1 q.2.2) ?_ h
 cases e <;> trivial
theorem strOf_inv {e : Expr} {x : Str} (h : strOf e = some x) : ∃ k p,e = .Constant (.str x) k p:=by
 refine of_elim (P:=fun x => ∃ k p,e = .Constant (.str x) k p) ?_ h
 cases e with
 | Constant c k p => cases c with
  | str j => exact ⟨k,p,rfl⟩
  | _ => trivial
 | _ => trivial
theorem strTwo_inv {l : List Expr} {p : Str × Str} (h : strTwo l = some p) : ∃ k1 p1 k2 p2,l = [.Constant (.str p.1) k1 p1,.Constant (.str p.2) k2 p2]:=by
 match l,h with
 | [a,b],h =>
  obtain ⟨x,h1,h⟩:=bMp h
  obtain ⟨y,h2,rfl⟩:=oMp h
  obtain ⟨k1,p1,rfl⟩:=strOf_inv h1
  obtain ⟨k2,p2,rfl⟩:=strOf_inv h2
  exact ⟨k1,p1,k2,p2,rfl⟩
theorem replE_ok {a b : Expr} {op : Operator} {pos : Pos} {d : PyData} (F : Fx prog w hb sc hF O s.heap env ρ) {Q : Value → Shared → Prop} (hQ : ∀ v s',Post prog w O s s' v d → Q v s') {rv : ReplV} (hv : replV a b = some rv) (h : replE sc ρ op rv = some d) : wpAny (model prog w) A (eval (.BinOp a op b pos) env) Q E s:=by
 obtain ⟨x0,h0,hv⟩:=bMp hv
 obtain ⟨c,hc,hv⟩:=bMp hv
 obtain ⟨q,hq,hv⟩:=bMp hv
 obtain ⟨p,hp,hv⟩:=bMp hv
 obtain ⟨x,hx,hv⟩:=bMp hv
 obtain ⟨⟨c1,c2,c3,c4⟩,hv⟩:=ite_inv hv
 obtain rfl:=Option.some.inj hv
 obtain ⟨c5,h⟩:=ite_inv h
 obtain ⟨t,ht,h⟩:=bMp h
 obtain ⟨dx,hd,ht⟩:=bMp ht
 obtain ⟨c6,hz⟩:=ite_inv h
 obtain ⟨k0,p0,rfl⟩:=strOf_inv h0
 obtain ⟨k1,p1,k2,p2,ea⟩:=strTwo_inv hp
 obtain ⟨np,eo⟩:=nameOf_inv hx
 rw [callV_inv hc,attrOf_inv hq,ea,eo,c1]
 refine wpAny_BinOp (Calls.Constant_str ?_)
 refine wpAny_Call_method_lateS (attrBase_eq rfl _ env _) (by rfl) c2 (F.F.name (s:={ s with toks:=s.toks + 1 }) hd (isVar_cases c5) fun v rv => ?_)
 rw [asStr_inv ht] at rv
 obtain ⟨tk,rfl⟩:=rv.is
 refine ⟨"str","str.replace",PySem.F.plainAttrs_str,PySem.F.slot_str_replace,PySem.F.type_str_replace,typeIs_str _ _ _,(fun ζ e => nomatch e),?_⟩
 rw [starEach_cons rfl,starEach_cons rfl,backTo_cons,backTo_cons]
 refine Calls.callWith_builtin rfl (Calls.evalArgs_plain (Calls.spliced_cons (Calls.Constant_str (Calls.spliced_cons (Calls.Constant_str (Calls.spliced_nil ?_))))))
 refine SC.replaceW (Nat.succ_ne_zero _) (Nat.succ_ne_zero _) (Nat.ne_of_lt (Nat.lt_succ_self _)) c3 c6 c4 fun t' k => ?_
 exact binop_rule (s:={ s with toks:=k }) F.F.old (.str _ _) (.str _ _) hz fun v s' p => hQ v s' (post_trans rfl (Keep.refl _) p)
section
variable (G : Gl prog w T hb mg mb) (Sx : ExOk prog w hb false n r.ex) (St' : TrOk prog w hb false n r.tr) (Sf : FnOk prog w hb mg cl n r.fn) (rm : Rm false hb n A) (F : Fx prog w hb sc hF O s.heap env ρ) (K : Stk hb A s.heap)
 {d : PyData} {Q : Value → Shared → Prop} (hQ : ∀ v s',Post prog w O s s' v d → Q v s')
include Sx rm F K hQ
theorem unE_ok {op : UnaryOp} {e : Expr} {p : Pos} (h : exE T r sc ρ (.UnaryOp op e p) = some d) : wpAny (model prog w) A (eval (.UnaryOp op e p) env) Q E s:=by
 cases op with
 | USub =>
  obtain ⟨i,hi,rfl⟩:=oMp h
  obtain ⟨k,q,rfl⟩:=intOf_inv hi
  exact wpAny_UnaryOp (wpAny_Constant_int (P.neg_int (hQ _ _ (post_same (.int _ _)))))
 | Not =>
  obtain ⟨d1,h1,h⟩:=bMp h
  obtain ⟨b,h2,h⟩:=bMp h
  obtain rfl:=Option.some.inj h
  refine wpAny_UnaryOp (Sx sc ρ _ d1 h1 A s env hF O _ _ rm F K fun v s₁ p => ?_)
  obtain ⟨h₁,tk₁,rfl,k1,r1⟩:=p
  exact not_of (truth_rule r1 h2 fun tk => hQ _ _ ⟨h₁,tk,rfl,k1,.bool _⟩)
 | _ => exact nomatch h
include St' in
theorem iteE_ok {c a b : Expr} {p : Pos} (h : exE T r sc ρ (.IfExp c a b p) = some d) : wpAny (model prog w) A (eval (.IfExp c a b p) env) Q E s:=by
 obtain ⟨t,h1,h⟩:=bMp h
 refine wpAny_IfExp (St' sc ρ _ t h1 A s env hF O _ _ rm F K fun s₁ p => ?_)
 obtain ⟨h₁,tk₁,rfl,k1⟩:=p
 have key : ∀ x,r.ex sc ρ x = some d → wpAny (model prog w) A (eval x env) Q E { s with heap:=h₁,toks:=tk₁ }:=fun x h => Sx sc ρ x d h A _ env hF O _ _ rm (F.keeps k1) (K.keep k1) fun v s' p => hQ v s' (post_trans rfl k1 p)
 cases t with
 | true => exact key a h
 | false => exact key b h
include G Sf in
set_option tactic.hygienic true in
theorem callE_ok {g : Expr} {args : List Expr} {ks : List Keyword} {p : Pos} (h : exE T r sc ρ (.Call g args ks p) = some d) : wpAny (model prog w) A (eval (.Call g args ks p) env) Q E s:=by
 obtain ⟨h0,h1⟩:=ite_inv h
 clear h
 rw [List.isEmpty_iff.mp h0]
 clear h0
 revert h1
 split
 ·rename_i f hf
  obtain ⟨np,rfl⟩:=nameOf_inv hf
  intro h1
  obtain ⟨hg,h2⟩:=ite_inv h1
  revert h2
  split
  ·rename_i b hbl
   split
   ·exact fun h2 => bltE_ok G Sx rm hg hbl (Bool.eq_false_iff.mpr (ite_inv' h2).1) (ite_inv' h2).2 F K hQ
   ·intro h2
    by_cases hbm : b = "max"
    ·rw [if_pos hbm] at h2
     obtain ⟨hs,h3⟩:=ite_inv' h2
     exact max2_ok G Sx rm hg (hbm ▸ hbl) (Bool.eq_false_iff.mpr fun q => hs (.inl q)) (Bool.eq_false_iff.mpr fun q => hs (.inr q)) h3 F K hQ
    rw [if_neg hbm] at h2
    obtain ⟨c,hc,h3⟩:=bMp h2
    obtain ⟨np',rfl⟩:=nameOf_inv hc
    obtain ⟨hs,h4⟩:=ite_inv' h3
    obtain ⟨⟨rfl,hc2,hc3⟩,h5⟩:=ite_inv h4
    exact isiE_ok G Sx rm hg hbl (Bool.eq_false_iff.mpr hs) hc2 hc3 h5 F K hQ
   ·exact fun h2 => nomatch h2
  ·exact fun h2 => fnE_call G Sx Sf rm hg h2 F K hQ
 ·intro h1
  obtain ⟨q,hq,h2⟩:=bMp h1
  obtain ⟨hc,h3⟩:=ite_inv h2
  rw [attrOf_inv hq]
  exact method_ok Sx rm hc.1 hc.2.1 hc.2.2 h3 F K hQ
set_option tactic.hygienic true in
theorem subsE_ok {v i : Expr} {p : Pos} (h : exE T r sc ρ (.Subscript v i p) = some d) : wpAny (model prog w) A (eval (.Subscript v i p) env) Q E s:=by
 revert h
 show (match sliceOf i with | some p => _ | none => _) = _ → _
 split
 ·rename_i q hq
  obtain ⟨p',rfl⟩:=sliceOf_inv hq
  exact fun h => sliceE_ok Sx rm h F K hQ
 ·exact fun h => subE_ok Sx rm h F K hQ
end
set_option tactic.hygienic true in
theorem exE_ok (hs : r.still = false) (G : Gl prog w T hb mg mb) (Sx : ExOk prog w hb false n r.ex) (St' : TrOk prog w hb false n r.tr) (Sf : FnOk prog w hb mg cl n r.fn) : ExOk prog w hb false (n + 1) (exE T r):=by
 intro sc ρ e d h A s env hF O Q E rm' F K hQ
 have rm : Rm false hb n A:=rm'.le (Nat.le_succ n)
 cases e with
 | Constant c k p => exact constE_ok h hQ
 | Name x p => exact nameE_ok G F h hQ
 | BinOp a op b p =>
  revert h
  show (match replV a b with | some v => replE sc ρ op v | none => _) = _ → _
  split
  ·rename_i v hv
   exact fun h => replE_ok F hQ hv h
  ·exact fun h => binE_ok Sx rm h F K hQ
 | UnaryOp op e p => exact unE_ok Sx rm F K hQ h
 | Compare a ops bs p =>
  obtain ⟨op,ho,h⟩:=bMp h
  obtain ⟨b,hb,h⟩:=bMp h
  rw [oneOf_inv ho,oneOf_inv hb]
  obtain ⟨hs,h⟩:=ite_inv' h
  exact cmpE_ok Sx rm (Bool.eq_false_iff.mpr hs) h F K hQ
 | BoolOp op es p => rw [arm_eval_BoolOp];exact boolGo_ok Sx rm es d h s Q F K hQ
 | IfExp c a b p => exact iteE_ok Sx St' rm F K hQ h
 | List es p =>
  obtain ⟨hlen,h⟩:=ite_inv h
  obtain ⟨ds,h1,h⟩:=bMp h
  obtain rfl:=Option.some.inj h
  exact listE_ok Sx rm h1 F K (fun v s' p ζ => hQ v s' p) (by rw [evList_length h1];omega)
 | Tuple es k p =>
  obtain ⟨hlen,h⟩:=ite_inv h
  obtain ⟨ds,h1,h⟩:=bMp h
  obtain rfl:=Option.some.inj h
  exact tupleE_ok Sx rm h1 F K hQ (by rw [evList_length h1];omega)
 | ListComp => exact listCompE_ok G (show ExOk prog w hb r.still n r.ex from hs.symm ▸ Sx) (show TrOk prog w hb r.still n r.tr from hs.symm ▸ St') (show Rm r.still hb n A from hs.symm ▸ rm) h F K hQ
 | DictComp => exact dictCompE_ok G (show ExOk prog w hb r.still n r.ex from hs.symm ▸ Sx) (show TrOk prog w hb r.still n r.tr from hs.symm ▸ St') (show Rm r.still hb n A from hs.symm ▸ rm) h F K hQ
 | Subscript v i p => exact subsE_ok Sx rm F K hQ h
 | Call g args ks p => exact callE_ok G Sx Sf rm F K hQ h
 | _ => exact nomatch h
theorem trE_ok {qt : Bool} (Sx : ExOk prog w hb qt n r.ex) (St' : TrOk prog w hb qt n r.tr) : TrOk prog w hb qt (n + 1) (trE r):=by
 intro sc ρ e b h A s env hF O Q E rm' F K hQ
 have rm : Rm qt hb n A:=rm'.le (Nat.le_succ n)
 have plain : ∀ (e : Expr),((r.ex sc ρ e).bind truth) = some b → (isTrue e env (eval e env) = (do let v ← eval e env;standAt e.pos;holding [v] (truthy v))) → wpAny (model prog w) A (isTrue e env (eval e env)) Q E s:=fun e h he => by
  obtain ⟨d,h1,h⟩:=bMp h
  refine isTrue_plain (Sx sc ρ e d h1 A s env hF O _ _ rm F K fun v s₁ p => ?_) he
  obtain ⟨h₁,tk₁,rfl,k1,r1⟩:=p
  exact truth_rule r1 h fun tk => hQ _ ⟨h₁,tk,rfl,k1⟩
 cases e with
 | UnaryOp op x pos =>
  cases op with
  | Not =>
   obtain ⟨c,h1,h⟩:=bMp h
   obtain rfl:=Option.some.inj h
   exact isTrue_not (St' sc ρ _ c h1 A s env hF O _ _ rm F K fun s₁ p => hQ s₁ p)
  | _ => exact plain _ h rfl
 | BoolOp op es pos => rw [arm_isTrue_BoolOp];exact allGo_ok St' rm _ b h s Q F K hQ
 | IfExp c x y pos =>
  obtain ⟨t,h1,h⟩:=bMp h
  refine isTrue_IfExp (St' sc ρ _ t h1 A s env hF O _ _ rm F K fun s₁ p => ?_)
  obtain ⟨h₁,tk₁,rfl,k1⟩:=p
  have key : ∀ x,r.tr sc ρ x = some b → wpAny (model prog w) A (isTrue x env (eval x env)) Q E { s with heap:=h₁,toks:=tk₁ }:=fun x h => St' sc ρ x b h A _ env hF O _ _ rm (F.keeps k1) (K.keep k1) fun s' p => hQ s' (postB_trans rfl k1 p)
  cases t with
  | true => exact key x h
  | false => exact key y h
 | Compare a ops bs pos =>
  obtain ⟨op,ho,h⟩:=bMp h
  obtain ⟨x,hx,h⟩:=bMp h
  rw [oneOf_inv ho,oneOf_inv hx]
  obtain ⟨hs,h⟩:=ite_inv' h
  exact cmpT_ok Sx rm (Bool.eq_false_iff.mpr hs) h F K hQ
 | _ => exact plain _ h rfl
end
end
section
variable [bs : Base]
section
variable {prog : Program} {w : World} {T : Tab} {hb : Heap} {mg mb : Str → Option Value} {cl : Str → Option Value} {n : Nat} {A : Around} {r : Evs}
variable {sc : Names} {hF : Heap} {env : Env} {s : Shared} {O : Addr → Prop} {ρ : Vars} {E : Value → Shared → Prop}
structure OwnAt (prog : Program) (w : World) (sc : Names) (hF : Heap) (O : Addr → Prop) (h : Heap) (env : Env) (ρ : Vars) (x : Str) (ds : List PyData) (a : Addr) (vs : List Value) : Prop where
 o : O a
 new : hF.get? a = none
 ns : ¬ Sl env a
 pl : PL h a vs
 rs : RepAll prog w O h vs ds
 vi : VarIs h env sc x (.ref a)
 nx : ρ.lookup x = none
noncomputable def OwnI (prog : Program) (w : World) (sc : Names) (hF : Heap) (O : Addr → Prop) (h : Heap) (env : Env) (ρ : Vars) (o : Option (Str × List PyData)) (oa : Option Addr) : Prop :=
 (o = none ∧ oa = none) ∨ ∃ x ds a vs,o = some (x,ds) ∧ oa = some a ∧ OwnAt prog w sc hF O h env ρ x ds a vs
structure Fs (prog : Program) (w : World) (hb : Heap) (sc : Names) (hF : Heap) (O : Addr → Prop) (h : Heap) (env : Env) (σ : St) (oa : Option Addr) : Prop where
 F : Fx prog w hb sc hF O h env σ.ρ
 own : OwnI prog w sc hF O h env σ.ρ σ.own oa
noncomputable def ChgS (hF : Heap) (O : Addr → Prop) (env : Env) (oa : Option Addr) (a : Addr) : Prop:=OwnS hF O env a ∨ oa = some a
theorem OwnI.go {O' : Addr → Prop} {h h' : Heap} {ρ' : Vars} {o : Option (Str × List PyData)} {oa : Option Addr} (q : OwnI prog w sc hF O h env ρ o oa)
  (k : ∀ x ds a vs,o = some (x,ds) → oa = some a → OwnAt prog w sc hF O h env ρ x ds a vs → O' a ∧ PL h' a vs ∧ RepAll prog w O' h' vs ds ∧ VarIs h' env sc x (.ref a) ∧ ρ'.lookup x = none) : OwnI prog w sc hF O' h' env ρ' o oa :=
 q.imp id fun ⟨x,ds,a,vs,e1,e2,w⟩ => let ⟨h1,h2,h3,h4,h5⟩:=k x ds a vs e1 e2 w;⟨x,ds,a,vs,e1,e2,h1,w.new,w.ns,h2,h3,h4,h5⟩
theorem OwnI.keeps {h h' : Heap} {o : Option (Str × List PyData)} {oa : Option Addr} (q : OwnI prog w sc hF O h env ρ o oa) (k : Keep h h') : OwnI prog w sc hF O h' env ρ o oa :=
 q.go fun ζ ζ ζ ζ ζ ζ w => ⟨w.o,w.pl.keepK k,w.rs.keep k,w.vi.keep k,w.nx⟩
theorem Fs.keeps {h h' : Heap} {σ : St} {oa : Option Addr} (q : Fs prog w hb sc hF O h env σ oa) (k : Keep h h') : Fs prog w hb sc hF O h' env σ oa:=⟨q.F.keeps k,q.own.keeps k⟩
theorem own_at {h : Heap} {σ : St} {oa : Option Addr} {x : Str} {ds : List PyData} (q : Fs prog w hb sc hF O h env σ oa) (ho : σ.own = some (x,ds)) : ∃ a vs,oa = some a ∧ OwnAt prog w sc hF O h env σ.ρ x ds a vs:=by
 rcases q.own with ⟨e,_⟩ | ⟨x',ds',a,vs,e,e2,w⟩
 ·cases ho.symm.trans e
 ·cases ho.symm.trans e;exact ⟨a,vs,e2,w⟩
theorem Fx.withVar {O' : Addr → Prop} {h : Heap} (F : Fx prog w hb sc hF O h env ρ) (sub : ∀ a,O' a → O a) (slots : ∀ a,Sl env a → O' a) {x : Str} {v : Value} {d : PyData} (q : VarIs h env sc x v) (rv : Rep prog w O' h v d) : Fx prog w hb sc hF O' h env ((x,d) :: ρ) :=
 ⟨(F.F.go (fun ζ o ζ e => ⟨o,e,.refl _⟩) slots (fun ζ ζ ζ ζ r => r.less sub) F.F.keep fun a z => F.F.old a (sub a z)).add q rv,F.kb,fun b z => F.onew b (sub b z)⟩
theorem Fs.vis {h : Heap} {σ : St} {x : Str} {ds : List PyData} {a : Addr} {vs : List Value} (q : Fs prog w hb sc hF O h env σ (some a)) (ho : σ.own = some (x,ds)) (w' : OwnAt prog w sc hF O h env σ.ρ x ds a vs) : Fx prog w hb sc hF (Less O a) h env (vis σ):=by
 unfold Mine.vis
 rw [ho]
 exact q.F.withVar (fun b z => z.1) (fun b z => ⟨q.F.F.slot z,fun e => w'.ns (e ▸ z)⟩) w'.vi (.list (fun z => z.2 rfl) w'.pl (w'.rs.less fun b z => z.1))
theorem Fs.visAny {h : Heap} {σ : St} {oa : Option Addr} (q : Fs prog w hb sc hF O h env σ oa) : ∃ O₂,Fx prog w hb sc hF O₂ h env (Mine.vis σ):=by
 cases ho : σ.own with
 | none => exact ⟨O,by unfold Mine.vis;rw [ho];exact q.F⟩
 | some p => obtain ⟨a,vs,rfl,w'⟩:=own_at q ho;exact ⟨_,q.vis ho w'⟩
theorem rep_scalar {O' : Addr → Prop} {h h' : Heap} {v : Value} {d : PyData} (hs : scalar d = true) (r : Rep prog w O h v d) : Rep prog w O' h' v d:=by
 cases d with
 | none => rw [show v = .none from r.is];exact .none
 | bool b => rw [show v = .bool b from r.is];exact .bool b
 | int i => exact r.intE fun t => .int i t
 | str x => exact r.strE fun t => .str x t
 | _ => exact nomatch hs
theorem ref_scalar {h : Heap} {a : Addr} {d : PyData} (hs : scalar d = true) (r : Rep prog w O h (.ref a) d) : False:=by
 cases d with
 | none => exact Value.noConfusion (r.is : Value.ref a = .none)
 | bool b => exact Value.noConfusion (r.is : Value.ref a = .bool b)
 | int i => obtain ⟨t,e⟩:=r.is;exact Value.noConfusion e
 | str x => obtain ⟨t,e⟩:=r.is;exact Value.noConfusion e
 | _ => exact nomatch hs
theorem exO_cases {σ : St} {e : Expr} {d : PyData} (h : exO r sc σ e = some d) : r.ex sc σ.ρ e = some d ∨ (r.ex sc (vis σ) e = some d ∧ scalar d = true) :=
 (orD_inv h).imp id fun h => let ⟨_,h1,h2⟩:=bMp h;let ⟨hs,e⟩:=ite_inv h2;Option.some.inj e ▸ ⟨h1,hs⟩
theorem exO_ok (Sx : ExOk prog w hb false n r.ex) (rm : Rm false hb n A) {σ : St} {oa : Option Addr} {e : Expr} {d : PyData} (h : exO r sc σ e = some d) (q : Fs prog w hb sc hF O s.heap env σ oa) (K : Stk hb A s.heap)
  {Q : Value → Shared → Prop} (hQ : ∀ v s',Post prog w O s s' v d → Q v s') : wpAny (model prog w) A (eval e env) Q E s:=by
 rcases exO_cases h with h | ⟨h,hs⟩
 ·exact Sx sc σ.ρ e _ h A s env hF O Q E rm q.F K hQ
 ·obtain ⟨O₂,F₂⟩:=q.visAny
  exact Sx sc (Mine.vis σ) e _ h A s env hF O₂ Q E rm F₂ K fun v s' ⟨h',tk,e1,k,rp⟩ => hQ v s' ⟨h',tk,e1,k,rep_scalar hs rp⟩
theorem trO_ok (St' : TrOk prog w hb false n r.tr) (rm : Rm false hb n A) {σ : St} {oa : Option Addr} {e : Expr} {b : Bool} (h : trO r sc σ e = some b) (q : Fs prog w hb sc hF O s.heap env σ oa) (K : Stk hb A s.heap)
  {Q : Bool → Shared → Prop} (hQ : ∀ s',PostB s s' → Q b s') : wpAny (model prog w) A (isTrue e env (eval e env)) Q E s :=
 (orD_inv h).elim (fun h => St' sc σ.ρ e b h A s env hF O Q E rm q.F K hQ) fun h => let ⟨O₂,F₂⟩:=q.visAny;St' sc (Mine.vis σ) e b h A s env hF O₂ Q E rm F₂ K hQ
end
end
section
variable [bs : Base]
noncomputable def Made' (h₀ h : Heap) (e : Addr) (C : Value) (x : Str) : Prop:=∃ tk,Heap.MadeExcOf h₀ h e C [.str x tk]
noncomputable def FlowIs (prog : Program) (w : World) (hF : Heap) (O : Addr → Prop) (h : Heap) (fl : Flow) : Out → Prop
 | .next => fl = .next
 | .brk => fl = .brk
 | .ret d => ∃ v,fl = .ret v ∧ ∀ O₀ : Addr → Prop,Old O₀ hF → (∀ a,O₀ a → O a) → Rep prog w O₀ h v d
noncomputable def OwIs (ow : Option Str) (σ : St) : Prop:=∀ x ds,σ.own = some (x,ds) → ow = some x
mutual
noncomputable def stS : Stmt → List Str
 | .Assign ts _ _ => ts.flatMap namesT
 | .If _ a b _ => stL a ++ stL b
 | .For t _ a b _ => namesT t ++ (stL a ++ stL b)
 | .While _ a b _ => stL a ++ stL b
 | _ => []
noncomputable def stL : List Stmt → List Str
 | [] => []
 | s :: r => stS s ++ stL r
end
structure Aft (prog : Program) (w : World) (hb : Heap) (sc : Names) (ow : Option Str) (X : List Str) (hF : Heap) (env : Env) (O : Addr → Prop) (h : Heap) (oa : Option Addr) (O' : Addr → Prop) (h' : Heap) (σ' : St) (oa' : Option Addr) : Prop where
 fs : Fs prog w hb sc hF O' h' env σ' oa'
 ow : OwIs ow σ'
 sub : ∀ a,O a → O' a
 new : ∀ a,O' a → O a ∨ h.get? a = none
 keep : KeepBut (ChgS hF O env oa) h h'
 lc : LocCls env h h'
 own : ∀ a,oa = some a → oa' = some a
 ownN : ∀ a,oa' = some a → oa = some a ∨ h.get? a = none
 vk : ∀ y v,y ∉ X → VarIs h env sc y v → VarIs h' env sc y v
noncomputable def SsOk (prog : Program) (w : World) (hb : Heap) (cl : Str → Option Value) (n : Nat) (ss : Names → Option Str → St → List Stmt → Rs (Out × St)) : Prop :=
 ∀ sc ow σ stmts res,ss sc ow σ stmts = some res → ∀ (X : List Str),(∀ x ∈ stL stmts,x ∈ X) → ∀ (A : Around) (s : Shared) (env : Env) (hF : Heap) (O : Addr → Prop) (oa : Option Addr) (Q : Flow → Shared → Prop) (E : Value → Shared → Prop),
  Rm false hb n A → OwIs ow σ → Fs prog w hb sc hF O s.heap env σ oa → Stk hb A s.heap →
  (∀ out σ',res = .ok (out,σ') → ∀ (O' : Addr → Prop) h' tk oa' fl,FlowIs prog w hF O' h' fl out → Aft prog w hb sc ow X hF env O s.heap oa O' h' σ' oa' → Q fl { s with heap:=h',toks:=tk }) →
  (∀ x,res = .error x → ∀ e (O' : Addr → Prop) h₁ h' tk C σ' oa',cl x.cls = some C → Aft prog w hb sc ow X hF env O s.heap oa O' h₁ σ' oa' → Made' h₁ h' e C x.word → E (.ref e) { s with heap:=h',toks:=tk }) →
  wpAny (model prog w) A (execs stmts env) Q E s
section
variable {prog : Program} {w : World} {T : Tab} {hb : Heap} {mg mb : Str → Option Value} {cl : Str → Option Value} {n : Nat} {A : Around} {r : Evs}
variable {sc : Names} {ow : Option Str} {X : List Str} {hF : Heap} {env : Env} {s : Shared} {O : Addr → Prop} {ρ : Vars} {E : Value → Shared → Prop}
theorem Stk.stmt {h h' : Heap} {σ : St} {oa : Option Addr} (K : Stk hb A h) (q : Fs prog w hb sc hF O h env σ oa) (k : KeepBut (ChgS hF O env oa) h h') (lc : LocCls env h h') : Stk hb A h':=by
 refine K.chg k fun a hC o es₀ ep₀ ho hc hdt => ?_
 rcases hC with ⟨_,rfl | ⟨x,hx⟩⟩ | hs
 ·obtain ⟨o',es,ep,e',c',d'⟩:=lc o ho
  exact ⟨o',e',c'.trans hc,es,ep,d'⟩
 ·obtain ⟨ov,o₂,ho₂,hd₂⟩:=q.F.F.allc x a hx
  cases ho.symm.trans ho₂
  exact nomatch hdt.symm.trans hd₂
 ·rcases q.own with ⟨_,e⟩ | ⟨_,_,_,_,_,e,w'⟩
  ·exact nomatch hs.symm.trans e
  ·cases hs.symm.trans e
   obtain ⟨m,e₂⟩:=w'.pl
   cases ho.symm.trans e₂
   exact nomatch hdt
theorem Fs.ns {h : Heap} {σ : St} {oa : Option Addr} (q : Fs prog w hb sc hF O h env σ oa) : ∃ m,h.Ns env.locals m:=let ⟨m,hn,_⟩:=q.F.F.ns;⟨m,hn⟩
theorem Fs.ownO {h : Heap} {σ : St} {oa : Option Addr} (q : Fs prog w hb sc hF O h env σ oa) {a : Addr} (e : oa = some a) : O a:=by
 rcases q.own with ⟨_,e'⟩ | ⟨_,_,_,_,_,e',w'⟩
 ·exact nomatch e.symm.trans e'
 ·cases e.symm.trans e';exact w'.o
theorem Aft.ofKeep {h h' : Heap} {σ : St} {oa : Option Addr} (q : Fs prog w hb sc hF O h env σ oa) (hw : OwIs ow σ) (k : Keep h h') : Aft prog w hb sc ow X hF env O h oa O h' σ oa :=
 ⟨q.keeps k,hw,fun ζ z => z,fun ζ z => .inl z,k.but,(let ⟨_,hn⟩:=q.ns;.of_keep hn fun o e => k _ o e),fun ζ z => z,fun ζ z => .inl z,fun ζ ζ ζ z => z.keep k⟩
theorem Aft.trans {h h' h'' : Heap} {O' O'' : Addr → Prop} {σ σ' σ'' : St} {oa oa' oa'' : Option Addr} (q : Fs prog w hb sc hF O h env σ oa) (x : Aft prog w hb sc ow X hF env O h oa O' h' σ' oa') (y : Aft prog w hb sc ow X hF env O' h' oa' O'' h'' σ'' oa'') :
  Aft prog w hb sc ow X hF env O h oa O'' h'' σ'' oa'' :=
 have back : ∀ a,h'.get? a = none → O a ∨ h.get? a = none:=fun a z' => by
  cases e : h.get? a with
  | none => exact .inr rfl
  | some o =>
   refine .inl (Classical.byContradiction fun hO => ?_)
   obtain ⟨o',e',_⟩:=x.keep a o (fun hc => hO (hc.elim (fun z => z.1.1) q.ownO)) e
   cases z'.symm.trans e'
 {fs:=y.fs
  ow:=y.ow
  sub:=fun a z => y.sub a (x.sub a z)
  new:=fun a z => (y.new a z).elim (x.new a) (back a)
  keep:=fun b o nb e =>
   let ⟨_,e',al⟩:=x.keep b o nb e
   let ⟨o'',e'',al'⟩:=y.keep b _ (fun z => z.elim (fun z => nb (.inl ⟨⟨q.F.F.slot z.2,z.1.2⟩,z.2⟩)) fun z => (x.ownN b z).elim (fun z => nb (.inr z)) fun z => nomatch e.symm.trans z) e'
   ⟨o'',e'',al.trans al'⟩
  lc:=x.lc.trans y.lc
  vk:=fun z v n u => y.vk z v n (x.vk z v n u)
  own:=fun a z => y.own a (x.own a z)
  ownN:=fun a z => (y.ownN a z).elim (x.ownN a) fun z' => by
   cases e : h.get? a with
   | none => exact .inr rfl
   | some o =>
    by_cases hc : ChgS hF O env oa a
    ·refine .inl (hc.elim (fun hc => ?_) id)
     obtain ⟨o',ho'⟩:=x.fs.F.slot_old hc.2
     cases z'.symm.trans ho'
    ·obtain ⟨o',e',_⟩:=x.keep a o hc e
     cases z'.symm.trans e' }
theorem Aft.stk {h h' : Heap} {O' : Addr → Prop} {σ σ' : St} {oa oa' : Option Addr} (x : Aft prog w hb sc ow X hF env O h oa O' h' σ' oa') (q : Fs prog w hb sc hF O h env σ oa) (K : Stk hb A h) : Stk hb A h':=K.stmt q x.keep x.lc
noncomputable def StOk (prog : Program) (w : World) (hb : Heap) (cl : Str → Option Value) (n : Nat) (st' : Names → Option Str → St → Stmt → Rs (Out × St)) : Prop :=
 ∀ sc ow σ st res,st' sc ow σ st = some res → ∀ (X : List Str),(∀ x ∈ stS st,x ∈ X) → ∀ (A : Around) (s : Shared) (env : Env) (hF : Heap) (O : Addr → Prop) (oa : Option Addr) (Q : Flow → Shared → Prop) (E : Value → Shared → Prop),
  Rm false hb n A → OwIs ow σ → Fs prog w hb sc hF O s.heap env σ oa → Stk hb A s.heap →
  (∀ out σ',res = .ok (out,σ') → ∀ (O' : Addr → Prop) h' tk oa' fl,FlowIs prog w hF O' h' fl out → Aft prog w hb sc ow X hF env O s.heap oa O' h' σ' oa' → Q fl { s with heap:=h',toks:=tk }) →
  (∀ x,res = .error x → ∀ e (O' : Addr → Prop) h₁ h' tk C σ' oa',cl x.cls = some C → Aft prog w hb sc ow X hF env O s.heap oa O' h₁ σ' oa' → Made' h₁ h' e C x.word → E (.ref e) { s with heap:=h',toks:=tk }) →
  wpAny (model prog w) A (exec st env) Q E s
theorem execs_cons {st : Stmt} {rest : List Stmt} {M : Model} {Q : Flow → Shared → Prop} (h : wpAny M A (exec st env) (fun f s₁ => match f with | .next => wpAny M A (execs rest env) Q E s₁ | f => Q f s₁) E s) :
  wpAny M A (execs (st :: rest) env) Q E s:=by
 show wpAny M A (do match ← exec st env with | .next => execs rest env | f => pure f) Q E s
 refine wpAny_bind (wpAny_mono h (fun f s₁ h₁ => ?_) fun ζ ζ e => e)
 cases f with
 | next => exact h₁
 | _ => exact wpAny_pure h₁
theorem Rs.bind_some {α β : Type} {m : Rs α} {f : α → Rs β} {res : Except Ex β} (h : m.bind f = some res) : (∃ x,m = some (.error x) ∧ res = .error x) ∨ ∃ a,m = some (.ok a) ∧ f a = some res:=by
 match m,h with
 | some (.error x),h => obtain rfl:=Option.some.inj h;exact .inl ⟨x,rfl,rfl⟩
 | some (.ok a),h => exact .inr ⟨a,rfl,h⟩
theorem Rs.up_inv {α : Type} {m : Option α} {res : Except Ex α} (h : Rs.up m = some res) : ∃ a,m = some a ∧ res = .ok a:=let ⟨a,h1,h2⟩:=oMp h;⟨a,h1,h2.symm⟩
theorem Rs.up_bind {α β : Type} {m : Option α} {f : α → Rs β} {res : Except Ex β} (h : (Rs.up m).bind f = some res) : ∃ a,m = some a ∧ f a = some res:=by
 cases m with
 | none => exact nomatch h
 | some a => exact ⟨a,rfl,h⟩
theorem ssE_ok (Ss : SsOk prog w hb cl n r.ss) (Si : StOk prog w hb cl n (stmtE T r)) : SsOk prog w hb cl (n + 1) (ssE T r):=by
 intro sc ow σ stmts res h X hX A s env hF O oa Q E rm' hw q K hQ hE
 have rm : Rm false hb n A:=rm'.le (Nat.le_succ n)
 cases stmts with
 | nil => obtain rfl:=Option.some.inj h;exact wpAny_pure (hQ _ _ rfl O s.heap s.toks oa .next rfl (Aft.ofKeep q hw (Keep.refl _)))
 | cons st rest =>
  refine execs_cons ?_
  rcases Rs.bind_some h with ⟨x,h1,rfl⟩ | ⟨⟨out,σ'⟩,h1,h2⟩
  ·exact Si sc ow σ st _ h1 X (fun x hx => hX x (List.mem_append_left _ hx)) A s env hF O oa _ _ rm hw q K (fun ζ ζ e => nomatch e) hE
  ·refine Si sc ow σ st _ h1 X (fun x hx => hX x (List.mem_append_left _ hx)) A s env hF O oa _ _ rm hw q K (fun out₁ σ₁ e O' h' tk oa' fl hfl aft => ?_) (fun ζ e => nomatch e)
   cases e
   clear h1 h
   cases out with
   | next =>
    cases hfl
    exact Ss sc ow σ' rest res h2 X (fun x hx => hX x (List.mem_append_right _ hx)) A _ env hF O' oa' Q E rm aft.ow aft.fs (aft.stk q K) (fun out₂ σ₂ e O₂ h₂ tk₂ oa₂ fl₂ hfl₂ aft₂ => hQ out₂ σ₂ e O₂ h₂ tk₂ oa₂ fl₂ hfl₂ (aft.trans q aft₂))
     (fun x e ea O₂ h₁ h₂ tk₂ C σ₂ oa₂ hc aft₂ m => hE x e ea O₂ h₁ h₂ tk₂ C σ₂ oa₂ hc (aft.trans q aft₂) m)
   | brk => cases h2;cases hfl;exact hQ _ _ rfl O' h' tk oa' _ rfl aft
   | ret d => obtain rfl:=Option.some.inj h2;obtain ⟨v,rfl,hv⟩:=hfl;exact hQ _ _ rfl O' h' tk oa' _ ⟨v,rfl,hv⟩ aft
end
end
section
variable [bs : Base]
noncomputable def isSetC (e : Expr) : Bool:=e.ctorIdx == 9
noncomputable def UseOk (prog : Program) (w : World) (hb : Heap) (n : Nat) (ex : Names → Vars → Expr → Option PyData) : Prop :=
 ∀ sc ρ e d,ex sc ρ e = some d → isCompE e = true → ∀ (A : Around) (s : Shared) (env : Env) (hF : Heap) (O : Addr → Prop) (use : Value → Sem Unit) (Q : Unit → Shared → Prop) (E : Value → Shared → Prop),
  Rm false hb n A → Fx prog w hb sc hF O s.heap env ρ → Stk hb A s.heap →
  (∀ D C h' tk m,s.heap.get? D = none → s.heap.get? C = none → C ≠ D → Keep s.heap h' → NewAt prog w O h' C D d → h'.Ns C m →
   wpAny (model prog w) A (use (.ref D)) (fun ζ s'' => ∃ m,s''.heap.Ns C m ∧ ∀ h',Heap.SameBut C s''.heap h' → Q () { s'' with heap:=h' }) E { s with heap:=h',toks:=tk }) → wpAny (model prog w) A (evalThenUse e env use) Q E s
noncomputable def FreshOk (prog : Program) (w : World) (hb : Heap) (n : Nat) (ex : Names → Vars → Expr → Option PyData) : Prop :=
 ∀ sc ρ e ds,ex sc ρ e = some (.list ds) → newForm e = true → ∀ (A : Around) (s : Shared) (env : Env) (hF : Heap) (O : Addr → Prop) (Q : Value → Shared → Prop) (E : Value → Shared → Prop),
  Rm false hb n A → Fx prog w hb sc hF O s.heap env ρ → Stk hb A s.heap → (∀ v s',NewL prog w O s s' v ds → Q v s') → wpAny (model prog w) A (eval e env) Q E s
section
variable {prog : Program} {w : World} {T : Tab} {hb : Heap} {mg mb : Str → Option Value} {cl : Str → Option Value} {n : Nat} {A : Around} {r : Evs}
variable {sc : Names} {ow : Option Str} {hF : Heap} {env : Env} {s : Shared} {O : Addr → Prop} {ρ : Vars} {E : Value → Shared → Prop}
theorem useE_ok (hs : r.still = false) (G : Gl prog w T hb mg mb) (Sx : ExOk prog w hb false n r.ex) (St' : TrOk prog w hb false n r.tr) : UseOk prog w hb (n + 1) (exE T r):=by
 intro sc ρ e d h hc A s env hF O use Q E rm' F K hQ
 have rm : Rm false hb n A:=rm'.le (Nat.le_succ n)
 cases e with
 | ListComp elt gens scope pos =>
  cases gens with
  | nil => cases h
  | cons g gs =>
   show wpAny _ _ (do let _ ← comprehension (.ListComp elt (g :: gs) scope pos) scope env (firstIterPos (g :: gs) pos) (newList []) (firstAsync (g :: gs)) (firstIter (g :: gs) env) (some use)) Q E s
   have ha : firstAsync (g :: gs) = false:=firstAsync_ok (ite_inv h).1.2
   rw [ha]
   refine wpAny_bind (listComp_use G (show ExOk prog w hb r.still n r.ex from hs.symm ▸ Sx) (show TrOk prog w hb r.still n r.tr from hs.symm ▸ St') (show Rm r.still hb n A from hs.symm ▸ rm) (use:=some use) h F K fun D C h' tk m hD hC hCD k rep hm => ?_)
   refine wpAny_mono (hQ D C h' tk m hD hC hCD k rep hm) (fun ζ s'' q => ?_) fun ζ ζ e => e
   obtain ⟨m',hm',q⟩:=q
   exact ⟨m',hm',fun h'' sb => wpAny_pure (q h'' sb)⟩
 | DictComp kx vx gens scope pos =>
  cases gens with
  | nil => cases h
  | cons g gs =>
   show wpAny _ _ (do let _ ← comprehension (.DictComp kx vx (g :: gs) scope pos) scope env (firstIterPos (g :: gs) pos) newDict (firstAsync (g :: gs)) (firstIter (g :: gs) env) (some use)) Q E s
   have ha : firstAsync (g :: gs) = false:=firstAsync_ok (ite_inv h).1.2
   rw [ha]
   refine wpAny_bind (dictComp_use G (show ExOk prog w hb r.still n r.ex from hs.symm ▸ Sx) (show TrOk prog w hb r.still n r.tr from hs.symm ▸ St') (show Rm r.still hb n A from hs.symm ▸ rm) (use:=some use) h F K fun D C h' tk m hD hC hCD k rep hm => ?_)
   refine wpAny_mono (hQ D C h' tk m hD hC hCD k rep hm) (fun ζ s'' q => ?_) fun ζ ζ e => e
   obtain ⟨m',hm',q⟩:=q
   exact ⟨m',hm',fun h'' sb => wpAny_pure (q h'' sb)⟩
 | _ => exact nomatch hc
theorem newList_new {vs : List Value} {ds : List PyData} (r : RepAll prog w O s.heap vs ds) {n : Nat} :
  NewL prog w O s { s with heap:=s.heap.push { cls:=.type "list",data:=.seq vs.toArray n } } (.ref s.heap.objs.size) ds :=
 ⟨s.heap.objs.size,vs,_,s.toks,rfl,fresh_size _,rfl,Keep.push _ _,⟨n,Heap.get?_push_size _ rfl⟩,(r.more (by
  rintro a (z | rfl)
  ·exact .inl z
  ·exact .inr (fresh_size _))).keep (Keep.push _ _)⟩
theorem newL_trans {s₀ s₁ s₂ : Shared} {v : Value} {ds : List PyData} {h₁ : Heap} {tk : Nat} (e : s₁ = { s₀ with heap:=h₁,toks:=tk }) (k : Keep s₀.heap h₁) (p : NewL prog w O s₁ s₂ v ds) : NewL prog w O s₀ s₂ v ds:=by
 subst e
 obtain ⟨a,vs,h',tk',e1,hn,e2,k',pl,rs⟩:=p
 exact ⟨a,vs,h',tk',e1,k.none hn,e2,k.trans k',pl,rs⟩
theorem freshE_ok (hs : r.still = false) (G : Gl prog w T hb mg mb) (Sx : ExOk prog w hb false n r.ex) (St' : TrOk prog w hb false n r.tr) : FreshOk prog w hb (n + 1) (exE T r):=by
 intro sc ρ e ds h hf A s env hF O Q E rm' F K hQ
 have rm : Rm false hb n A:=rm'.le (Nat.le_succ n)
 cases e with
 | ListComp elt gens scope pos =>
  exact listCompN_ok G (show ExOk prog w hb r.still n r.ex from hs.symm ▸ Sx) (show TrOk prog w hb r.still n r.tr from hs.symm ▸ St') (show Rm r.still hb n A from hs.symm ▸ rm) h F K hQ
 | List es pos =>
  obtain ⟨hlen,h⟩:=ite_inv h
  obtain ⟨ds',h1,h⟩:=bMp h
  cases h
  have hl:=evList_length h1
  refine wpAny_bind (wpAny_standAt (wpAny_bind (evList_ok Sx rm pos es ds h1 s _ F K fun vs h' tk k rs => ?_)))
  refine wpAny_newObj_type ?_ (by have:=rs.length;show vs.toArray.size ≤ _;rw [sizeLine_eq,List.size_toArray];omega)
  exact hQ _ _ (newL_trans (s₁:={ s with heap:=h',toks:=tk }) rfl k (newList_new rs))
 | BinOp a op b pos =>
  cases op with
  | Add =>
   revert h
   show (match replV a b with | some v => replE sc ρ .Add v | none => _) = _ → _
   split
   ·intro h
    obtain ⟨t,_,h⟩:=bMp (ite_inv h).2
    rcases orD_inv (ite_inv h).2 with h | h
    ·obtain ⟨x,y,_,_,e⟩:=two_inv h;cases (ite_inv e).2
    ·obtain ⟨x,y,e,_⟩:=two_inv h;cases e
   intro h
   obtain ⟨d1,h1,h⟩:=bMp h
   obtain ⟨d2,h2,h⟩:=bMp h
   refine wpAny_BinOp (two_ok Sx rm h1 h2 F K fun v1 v2 h' tk k r1 r2 => ?_)
   have hl : list2 (fun xs ys => if xs.length + ys.length ≤ lim then some (PyData.list (xs ++ ys)) else none) d1 d2 = some (.list ds):=by
    rcases orD_inv h with h | h
    ·obtain ⟨x,y,_,_,e⟩:=two_inv h;cases e
    ·rcases orD_inv h with h | h
     ·obtain ⟨x,y,_,_,e⟩:=two_inv h;cases (ite_inv e).2
     ·exact h
   exact list2_rule r1 r2 hl fun ζ ζ ζ ζ ζ ζ e l1 q1 l2 q2 => add_rule l1.isList l2.isList (by rw [q1.length,q2.length];exact (ite_inv e).1) (hQ _ _ (newL_trans (s₁:={ s with heap:=h',toks:=tk }) rfl k (by cases (ite_inv e).2;exact newList_new (q1.append q2))))
  | _ => exact nomatch hf
 | _ => exact nomatch hf
theorem swaps_pure (value : Expr) (x : Str) (p : Pos) (line : Nat) : ∃ b,swapsWith value (some (.Name x p)) line env = pure b ∧ (b = true → isCompE value = true ∨ isSetC value = true):=by
 cases value with
 | ListComp => exact ⟨_,rfl,fun ζ => .inl rfl⟩
 | DictComp => exact ⟨_,rfl,fun ζ => .inl rfl⟩
 | SetComp => exact ⟨_,rfl,fun ζ => .inr rfl⟩
 | _ => exact ⟨false,rfl,fun h => nomatch h⟩
variable {M : Model}
theorem assign_name_rule {value : Expr} {x : Str} {p pos : Pos} {Q : Flow → Shared → Prop}
  (h1 : wpAny M A (eval value env) (fun v s₁ => wpAny M A (storeName env x v) (fun ζ => Q .next) E s₁) E s)
  (h2 : isCompE value = true → wpAny M A (evalThenUse value env fun v => assign (.Name x p) env v) (fun ζ => Q .next) E s) (hs : isSetC value = false) :
  wpAny M A (exec (.Assign [.Name x p] value pos) env) Q E s:=by
 obtain ⟨b,hb,hv⟩:=swaps_pure (env:=env) value x p pos.line
 cases b with
 | false => exact wpAny_Assign_Name h1 hb
 | true =>
  have e : exec (.Assign [.Name x p] value pos) env = (do
   standAt pos
   if ← swapsWith value (some (.Name x p)) pos.line env then
    evalThenUse value env fun v => assign (.Name x p) env v
    pure .next
   else do
    let v ← eval value env
    assignStores env v (← swappedStores [.Name x p] value env) ((assignEach [.Name x p] env).map (·.2))):=rfl
  rw [e,hb]
  exact wpAny_bind (wpAny_standAt (wpAny_bind (wpAny_pure (wpAny_bind (wpAny_mono (h2 ((hv rfl).elim id fun z => nomatch hs.symm.trans z)) (fun ζ ζ q => wpAny_pure q) fun ζ ζ e => e)))))
end
end
section
variable [bs : Base]
section
variable {prog : Program} {w : World} {A : Around} {E : Value → Shared → Prop} {s : Shared}
theorem PL.mapSeq {a : Addr} {vs us : List Value} {h : Heap} (l : PL h a vs) (f : Array Value → Array Value) (hf : f vs.toArray = us.toArray) : PL (h.update a (Obj.mapSeq f)) a us:=by
 obtain ⟨n,ho⟩:=l
 have e : ∃ m,Obj.mapSeq f { cls:=.type "list",data:=.seq vs.toArray n } = { cls:=.type "list",data:=.seq us.toArray m }:=by
  unfold Obj.mapSeq
  dsimp only
  rw [hf]
  split <;> exact ⟨_,rfl⟩
 obtain ⟨m,e⟩:=e
 exact ⟨m,by rw [Heap.get?_update_self _ ho (by rw [e];rfl),e]⟩
theorem extend_rule {l b : Addr} {vs us : List Value} {Q : Value → Shared → Prop} (hl : PL s.heap l vs) (hb : PL s.heap b us) (hsz : vs.length + us.length ≤ 1048576)
  (h : ∀ h',PL h' l (vs ++ us) → Heap.SameBut l s.heap h' → Q .none { s with heap:=h' }) : wpAny (model prog w) A (call (.builtin "list.extend") [.ref l,.ref b]) Q E s:=by
 obtain ⟨n,ho⟩:=id hl
 obtain ⟨n2,ho2⟩:=id hb
 have hlim : sizeLine = 16777216:=sizeLine_eq
 refine call_meets PySem.F.slot_list_extend ⟨_,ho,rfl⟩ PySem.F.entry_list_extend (PySem.F.args_list_extend_2 _ _)
  (AutoSeq1.list_extend_list_list_0 l vs.toArray n b us.toArray n2 ?_ (by rw [hlim];simp;omega) (by rw [hlim];simp;omega)) ⟨ho,ho2,?_⟩
 ·have : Builtin.List.listTooLong (vs.toArray.size + us.toArray.size) = false:=by
   unfold Builtin.List.listTooLong;simp;omega
  rw [this];simp
 ·exact h _ (hl.mapSeq _ (by simp)) (Heap.SameBut.update ..)
theorem setitem_rule {l : Addr} {vs : List Value} {k : Int} {t : Tok} {v : Value} {Q : Unit → Shared → Prop} (hl : PL s.heap l vs) (h0 : 0 ≤ k) (hk : k < vs.length) (hsz : vs.length ≤ 1048576)
  (h : ∀ h',PL h' l (vs.set k.toNat v) → Heap.SameBut l s.heap h' → Q () { s with heap:=h' }) : wpAny (model prog w) A (setItem (.ref l) (.int k t) v) Q E s:=by
 have hfit : k < 2 ^ 63:=Int.lt_trans (show k < 1048576 by omega) (by decide)
 obtain ⟨n,ho⟩:=id hl
 unfold setItem
 try with_reducible refine wpAny_holding ?_
 first | refine wpAny_bind (wpAny_pure ?_) | skip
 refine wpAny_bind (wpAny_sequenceKey hl.isList.typeIs (by decide) ?_)
 refine wpAny_bind (wpAny_callSpecial?_slot (name:=Str.ofString "__setitem__") hl.isList.typeIs slot_list_setitem (wpAny_call_entry slot_list_setitem hl.isList.typeIs entry_list_setitem ?_ (args_list_setitem _ _ _)))
 show wpAny _ _ (Builtin.List.listSubscript? (.int k t) >>= _) _ _ s
 refine wpAny_bind (wpAny_listSubscript_int (fitsIndex_of h0 hfit) ?_)
 clear hfit
 obtain ⟨j,rfl⟩:=Int.eq_ofNat_of_zero_le h0
 have hj : j < vs.length:=by omega
 have hat : vs.toArray[j]? = some vs[j]:=by simp [hj]
 show wpAny _ _ ((seqItemAt l j >>= fun r => pure (r.map (j,·))) >>= _) _ _ s
 refine wpAny_bind (wpAny_bind (wpAny_seqItemAt ho rfl (wpAny_pure ?_)))
 rw [hat]
 show wpAny _ _ (setSeqItemAt l j v >>= _) _ _ s
 refine wpAny_bind (wpAny_setSeqItemAt ho rfl ?_)
 have q:=h _ (hl.mapSeq (us:=vs.set (Int.toNat (j : Int)) v) (·.setIfInBounds j v) (by simp)) (Heap.SameBut.update ..)
 first
  | exact wpAny_bind (wpAny_pure (wpAny_pure ⟨.none,rfl,wpAny_pure q⟩))
  | exact wpAny_pure ⟨.none,rfl,wpAny_pure q⟩
end
end
section
variable [bs : Base]
structure Bd (prog : Program) (w : World) (T : Tab) (hb : Heap) (mg mb : Str → Option Value) (cl : Str → Option Value) (n : Nat) (r : Evs) : Prop where
 still : r.still = false
 G : Gl prog w T hb mg mb
 ex : ExOk prog w hb false n r.ex
 tr : TrOk prog w hb false n r.tr
 use : UseOk prog w hb n r.ex
 fresh : FreshOk prog w hb n r.ex
 noSet : ∀ sc ρ a b c d,r.ex sc ρ (.SetComp a b c d) = none
section
variable {prog : Program} {w : World} {T : Tab} {hb : Heap} {mg mb : Str → Option Value} {cl : Str → Option Value} {n : Nat} {A : Around} {r : Evs}
variable {sc : Names} {ow : Option Str} {X : List Str} {hF : Heap} {env : Env} {s : Shared} {O : Addr → Prop} {ρ : Vars} {E : Value → Shared → Prop}
theorem Kept.mono {X Y : List Str} {h h' : Heap} (x : Kept env sc X h h') (hXY : ∀ y ∈ X,y ∈ Y) : Kept env sc Y h h':=⟨x.lc,fun y v n q => x.vk y v (fun z => n (hXY y z)) q⟩
theorem Kept.of_offJ {h h' : Heap} {m : Str → Option Value} {J : Addr → Prop} (hn : h.Ns env.locals m) (k : KeepBut J h h') (nS : ∀ b,J b → ¬ Sl env b) : Kept env sc [] h h' :=
 ⟨.of_keep hn fun o e => k _ o (fun q => nS _ q (.inl rfl)) e,fun y v ζ q => q.imp (fun ⟨e,m,hn,hm⟩ => ⟨e,m,ns_alike hn fun o e => k _ o (fun q => nS _ q (.inl rfl)) e,hm⟩)
  fun ⟨e,c,hc,hcl⟩ => ⟨e,c,hc,isCell_alike hcl fun o e => k c o (fun q => nS _ q (.inr ⟨y,hc⟩)) e⟩⟩
theorem Kept.of_off {h h' : Heap} {m : Str → Option Value} {I : Addr} (hn : h.Ns env.locals m) (k : KeepBut (· = I) h h') (nS : ¬ Sl env I) : Kept env sc [] h h':=.of_offJ (J:=(· = I)) hn k fun ζ q => q ▸ nS
theorem OwnI.stored {h h' : Heap} {ρ' : Vars} {X : List Str} {o : Option (Str × List PyData)} {oa : Option Addr} (q : OwnI prog w sc hF O h env ρ o oa) (k : KeepBut (OwnS hF O env) h h') (kp : Kept env sc X h h')
  (hX : ∀ x ds,o = Option.some (x,ds) → x ∉ X ∧ ρ'.lookup x = ρ.lookup x) : OwnI prog w sc hF O h' env ρ' o oa :=
 q.go fun x ds ζ ζ e ζ w => ⟨w.o,w.pl.off k fun z => w.ns z.2,w.rs.keepBut k.of_ownS.of_own,kp.vk _ _ (hX x ds e).1 w.vi,(hX x ds e).2.trans w.nx⟩
theorem Aft.stored {h h' : Heap} {σ : St} {oa : Option Addr} {ρ' : Vars} {Y : List Str} (hY : ∀ x ∈ Y,x ∈ X) (q : Fs prog w hb sc hF O h env σ oa) (hw : OwIs ow σ) (F' : Fx prog w hb sc hF O h' env ρ') (k : KeepBut (OwnS hF O env) h h') (kp : Kept env sc Y h h')
  (hX : ∀ x,ow = some x → x ∉ Y ∧ ρ'.lookup x = σ.ρ.lookup x) : Aft prog w hb sc ow X hF env O h oa O h' { σ with ρ:=ρ' } oa :=
 ⟨⟨F',q.own.stored k kp fun x ds e => hX x (hw x ds e)⟩,hw,fun ζ z => z,fun ζ z => .inl z,k.mono fun ζ z => .inl z,kp.lc,fun ζ z => z,fun ζ z => .inl z,fun y v n z => kp.vk y v (fun q => n (hY y q)) z⟩
theorem not_setcomp (B : Bd prog w T hb mg mb cl n r) {e : Expr} {d : PyData} (h : r.ex sc ρ e = some d) : isSetC e = false:=by
 cases e with
 | SetComp a b c d' => exact nomatch (B.noSet sc ρ a b c d').symm.trans h
 | _ => rfl
theorem useStore_ok (B : Bd prog w T hb mg mb cl n r) (rm : Rm false hb n A) {e : Expr} {d : PyData} {x : Str} {p : Pos} (h : r.ex sc ρ e = some d) (hc : isCompE e = true) (F : Fx prog w hb sc hF O s.heap env ρ) (K : Stk hb A s.heap)
  (hx : isOwn (sc.lookup x) = true) {Q : Unit → Shared → Prop}
  (hQ : ∀ h' tk,Fx prog w hb sc hF O h' env (setV ρ x d) → KeepBut (OwnS hF O env) s.heap h' → Kept env sc [x] s.heap h' → Q () { s with heap:=h',toks:=tk }) :
  wpAny (model prog w) A (evalThenUse e env fun v => assign (.Name x p) env v) Q E s:=by
 refine B.use sc ρ e d h hc A s env hF O _ Q E rm F K fun D C h' tk m hD hC hCD k rep hm => ?_
 have nS : ¬ Sl env C:=fun z => by obtain ⟨o,ho⟩:=F.slot_old z;rw [hC] at ho;cases ho
 have F₁ : Fx prog w hb sc hF (fun a => O a ∨ a = C) h' env ρ:=F.grow k (fun a z => .inl z) (by
  rintro a (z | rfl)
  ·exact .inl z
  ·exact .inr hC) (by
  rintro a (z | rfl)
  ·exact F.F.old.keep k a z
  ·obtain ⟨o,_,_,ho,_⟩:=hm;exact ⟨o,ho⟩)
 refine wpAny_assign_Name (F₁.store (s:={ s with heap:=h',toks:=tk }) hx rep.rep fun h'' tk'' F'' kO kp ζ => ⟨m,ns_alike hm fun o e => kO C o (fun z => nS z.2) e,fun h₃ sb => ?_⟩)
 have kI : KeepBut (· = C) h'' h₃:=KeepBut.of_sameBut sb rfl
 have F₃:=F''.dropI (I:=C) (.inr rfl) nS (F.F.keep.none hC) kI
 rw [less_addI (F.F.old.not hC)] at F₃
 obtain ⟨mL,hn,_⟩:=F.F.ns
 obtain ⟨mL',hn',_⟩:=F''.F.ns
 refine hQ h₃ _ F₃ ?_ ((((Kept.of_keep hn k).trans kp).trans (Kept.of_off hn' kI nS)).mono fun y hy => by simpa using hy)
 intro b o nb eb
 obtain ⟨o₁,e₁,a₁⟩:=k b o eb
 have hbC : b ≠ C:=fun q => by subst q;rw [hC] at eb;cases eb
 obtain ⟨o₂,e₂,a₂⟩:=kO b o₁ (fun z => nb ⟨⟨z.1.1.elim id fun q => absurd q hbC,z.1.2⟩,z.2⟩) e₁
 exact ⟨o₂,sb.extBut b o₂ hbC e₂,a₁.trans a₂⟩
theorem assign_ok (B : Bd prog w T hb mg mb cl n r) (rm : Rm false hb n A) {x : Str} (hxX : x ∈ X) {σ : St} {oa : Option Addr} {e : Expr} {d : PyData} {p pos : Pos} (h : exO r sc σ e = some d) (hx : isOwn (sc.lookup x) = true) (how : ow ≠ some x) (hw : OwIs ow σ)
  (q : Fs prog w hb sc hF O s.heap env σ oa) (K : Stk hb A s.heap) {Q : Flow → Shared → Prop}
  (hQ : ∀ h' tk,Aft prog w hb sc ow X hF env O s.heap oa O h' { σ with ρ:=setV σ.ρ x d } oa → Q .next { s with heap:=h',toks:=tk }) :
  wpAny (model prog w) A (exec (.Assign [.Name x p] e pos) env) Q E s:=by
 have hY : ∀ y ∈ [x],y ∈ X:=fun y hy => by rw [sMp hy];exact hxX
 have hX : ∀ y,ow = some y → y ∉ [x] ∧ (setV σ.ρ x d).lookup y = σ.ρ.lookup y:=fun y e => by
  have hne : y ≠ x:=fun q => how (q ▸ e)
  exact ⟨by simpa using hne,by rw [setV_lookup,if_neg hne]⟩
 refine assign_name_rule (exO_ok B.ex rm h q K fun v s₁ pst => ?_) (fun hc => ?_) ((exO_cases h).elim (not_setcomp B) fun h => not_setcomp B h.1)
 ·obtain ⟨h₁,tk₁,rfl,k1,rv⟩:=pst
  exact (q.keeps k1).F.store hx rv fun h' tk F' kO kp ζ => hQ h' tk ((Aft.ofKeep q hw k1).trans q (Aft.stored hY (q.keeps k1) hw F' kO kp hX))
 ·rcases exO_cases h with h1 | ⟨h1,hs⟩
  ·exact useStore_ok B rm h1 hc q.F K hx fun h' tk F' kO kp => hQ h' tk (Aft.stored hY q hw F' kO kp hX)
  ·obtain ⟨O₂,F₂⟩:=q.visAny
   exact B.use sc _ e d h1 hc A s env hF O₂ _ _ E rm F₂ K fun D C h' tk m hD hC hCD k rep hm => (ref_scalar hs rep.rep).elim
theorem addO_new {a D : Addr} (hD : s.heap.get? D = none) : (O a ∨ a = D) → O a ∨ s.heap.get? a = none:=by
 rintro (z | rfl)
 ·exact .inl z
 ·exact .inr hD
theorem Aft.newOwn {σ : St} {h' : Heap} {x : Str} {ds : List PyData} {vs : List Value} {D : Addr} (q : Fs prog w hb sc hF O s.heap env σ none) (hx : σ.ρ.lookup x = none) (how : ow = some x) (hD : s.heap.get? D = none)
  (F' : Fx prog w hb sc hF (fun a => O a ∨ a = D) h' env σ.ρ) (k : KeepBut (OwnS hF O env) s.heap h') (kp : Kept env sc [x] s.heap h') (hxX : x ∈ X) (pl : PL h' D vs) (rs : RepAll prog w (fun a => O a ∨ a = D) h' vs ds) (vi : VarIs h' env sc x (.ref D)) :
  Aft prog w hb sc ow X hF env O s.heap none (fun a => O a ∨ a = D) h' { σ with own:=some (x,ds) } (some D) :=
 ⟨⟨F',.inr ⟨x,ds,D,vs,rfl,rfl,{ o:=.inr rfl,new:=q.F.F.keep.none hD,ns:=fun z => (let ⟨_,ho⟩:=q.F.slot_old z;nomatch hD.symm.trans ho),pl:=pl,rs:=rs,vi:=vi,nx:=hx }⟩⟩,fun y es e => by cases e;exact how,fun ζ z => .inl z,fun ζ z => addO_new hD z,
  k.mono fun ζ z => .inl z,kp.lc,fun ζ z => (nomatch z),fun a z => .inr (by obtain rfl:=Option.some.inj z;exact hD),fun y v n z => kp.vk y v (fun q => n (sMp q ▸ hxX)) z⟩
theorem assignOwn_ok (B : Bd prog w T hb mg mb cl n r) (rm : Rm false hb n A) {x : Str} (hxX : x ∈ X) {σ : St} {oa : Option Addr} {e : Expr} {ds : List PyData} {p pos : Pos} (h : r.ex sc σ.ρ e = some (.list ds)) (hf : newForm e = true) (ho : σ.own = none)
  (hxn : σ.ρ.lookup x = none) (hx : isOwn (sc.lookup x) = true) (how : ow = some x) (q : Fs prog w hb sc hF O s.heap env σ oa) (K : Stk hb A s.heap) {Q : Flow → Shared → Prop}
  (hQ : ∀ (O' : Addr → Prop) h' tk oa',Aft prog w hb sc ow X hF env O s.heap oa O' h' { σ with own:=some (x,ds) } oa' → Q .next { s with heap:=h',toks:=tk }) :
  wpAny (model prog w) A (exec (.Assign [.Name x p] e pos) env) Q E s:=by
 have hoa : oa = none:=q.own.elim (·.2) fun ⟨_,_,_,_,e,_⟩ => nomatch ho.symm.trans e
 subst hoa
 have F:=q.F
 obtain ⟨mL,hnL,_⟩:=F.F.ns
 have nSl : ∀ {D},s.heap.get? D = none → ¬ Sl env D:=fun hD z => let ⟨_,ho⟩:=F.slot_old z;nomatch hD.symm.trans ho
 have key : ∀ (J : Addr → Prop) (h₁ h₂ : Heap) (D : Addr),s.heap.get? D = none → (∀ b,J b → s.heap.get? b = none) → Keep s.heap h₁ → KeepBut (OwnS hF (fun a => (O a ∨ a = D) ∨ J a) env) h₁ h₂ → KeepBut (OwnS hF O env) s.heap h₂:=fun J h₁ h₂ D hD hJ k kO b o nb eb => by
  obtain ⟨o₁,e₁,a₁⟩:=k b o eb
  obtain ⟨o₂,e₂,a₂⟩:=kO b o₁ (fun z => nb ⟨⟨z.1.1.elim (fun y => y.elim id fun q => nomatch (q ▸ eb).symm.trans hD) fun q => (nomatch eb.symm.trans (hJ b q)),z.1.2⟩,z.2⟩) e₁
  exact ⟨o₂,e₂,a₁.trans a₂⟩
 refine assign_name_rule (B.fresh sc σ.ρ e ds h hf A s env hF O _ E rm F K fun v s₁ nl => ?_) (fun hc => ?_) (not_setcomp B h)
 ·obtain ⟨D,vs,h₁,tk₁,rfl,hD,rfl,k,pl,rs⟩:=nl
  have F₁ : Fx prog w hb sc hF (fun a => O a ∨ a = D) h₁ env σ.ρ:=F.grow k (fun a z => .inl z) (fun a z => addO_new hD z) fun a z => z.elim (F.F.old.keep k a) fun z => let ⟨_,ho⟩:=pl;⟨_,z ▸ ho⟩
  exact F₁.F.storeV (s:={ s with heap:=h₁,toks:=tk₁ }) (isOwn_cases hx) hxn fun h' tk F' kO kp vi => hQ _ h' tk _ (Aft.newOwn q hxn how hD ⟨F',F₁.kb,F₁.onew⟩
   (key (fun ζ => False) h₁ h' D hD (fun ζ z => z.elim) k (kO.mono fun b z => ⟨⟨.inl z.1.1,z.1.2⟩,z.2⟩)) (((Kept.of_keep (sc:=sc) hnL k).trans kp).mono fun y hy => hy) hxX (vs:=vs) (pl.off kO fun z => nSl hD z.2) (rs.keepBut kO.of_ownS.of_own) vi)
 ·refine B.use sc σ.ρ e _ h hc A s env hF O _ _ E rm F K fun D C h₁ tk₁ m hD hC hCD k rep hm => ?_
  obtain ⟨vs,pl,rs⟩:=rep.list ds rfl
  have F₁ : Fx prog w hb sc hF (fun a => (O a ∨ a = D) ∨ a = C) h₁ env σ.ρ:=F.grow k (fun a z => .inl (.inl z)) (fun a z => z.elim (addO_new hD) fun z => .inr (z ▸ hC)) fun a z => z.elim (fun z => z.elim (F.F.old.keep k a) fun z => let ⟨_,ho⟩:=pl;⟨_,z ▸ ho⟩) fun z => let ⟨o,_,_,ho,_⟩:=hm;⟨o,z ▸ ho⟩
  refine wpAny_assign_Name (F₁.F.storeV (s:={ s with heap:=h₁,toks:=tk₁ }) (isOwn_cases hx) hxn fun h₂ tk₂ F₂ kO kp vi => ⟨m,ns_alike hm fun o e => kO C o (fun z => nSl hC z.2) e,fun h₃ sb => ?_⟩)
  have kI : KeepBut (· = C) h₂ h₃:=KeepBut.of_sameBut sb rfl
  have F₃:=Fx.dropI (I:=C) ⟨F₂,F₁.kb,F₁.onew⟩ (.inr rfl) (nSl hC) (F.F.keep.none hC) kI
  rw [less_addI (O:=fun a => O a ∨ a = D) (fun z => z.elim (F.F.old.not hC) hCD)] at F₃
  obtain ⟨mL',hn',_⟩:=F₂.ns
  have ko:=Kept.of_off (sc:=sc) hn' kI (nSl hC)
  refine hQ _ h₃ _ _ (Aft.newOwn q hxn how hD F₃ (fun b o nb eb => ?_) ((((Kept.of_keep (sc:=sc) hnL k).trans kp).trans ko).mono fun y hy => by simpa using hy) hxX (vs:=vs) ((pl.off kO fun z => nSl hD z.2).off kI (Ne.symm hCD)) ?_ (ko.vk _ _ nofun vi))
  ·obtain ⟨o₂,e₂,a₂⟩:=key (· = C) h₁ h₂ D hD (fun ζ q => q ▸ hC) k kO b o nb eb
   exact ⟨o₂,sb.extBut b o₂ (fun q => nomatch (q ▸ eb).symm.trans hC) e₂,a₂⟩
  ·have rs' : RepAll prog w (fun a => (O a ∨ a = D) ∨ a = C) h₁ vs ds:=rs.less fun a z => z.elim (fun y => y.imp id .inr) fun q => .inr (.inl q)
   exact ((rs'.keepBut kO.of_ownS.of_own).keepBut (kI.mono fun a q => .inr q)).less fun a z => .inl z
end
end
section
variable [bs : Base]
noncomputable def ExcAt (hb : Heap) (mg : Str → Option Value) (c : Str) (C : Addr) : Prop :=
 ∃ bm newId Bn inN bmN B nid initId,OwnCls c C bm newId mg hb ∧ ExcBaseFacts Bn newId inN bmN ∧ bm.contains (.type Bn) = true ∧ ExcBaseFacts B nid initId bm
theorem OwnTail.keepK {h h' : Heap} {bmB tl : List Value} (x : OwnTail h bmB tl) (k : Keep h h') : OwnTail h' bmB tl:=by
 induction x with
 | base => exact .base
 | own e hn hi _ ih =>
  obtain ⟨o',e',al⟩:=k _ _ e
  have h1:=al.data
  have h2:=al.cls
  obtain ⟨c',d',dt',sl'⟩:=o'
  simp only at h1 h2
  subst h1
  exact .own e' (ns_keep hn k) hi ih
section
variable {prog : Program} {w : World} {T : Tab} {hb : Heap} {mg mb : Str → Option Value} {cl : Str → Option Value} {n : Nat} {A : Around} {r : Evs}
variable {sc : Names} {ow : Option Str} {X : List Str} {hF : Heap} {env : Env} {s : Shared} {O : Addr → Prop} {ρ : Vars} {E : Value → Shared → Prop}
theorem raise_ok (B : Bd prog w T hb mg mb cl n r) (rm : Rm false hb n A) {c : Str} {C : Addr} {e : Expr} {np cpos pos : Pos} {x : Str} (hc : ExcAt hb mg c C) (hg : sc.lookup c = some .globalImplicit) (hs : isStar e = false) (h : r.ex sc ρ e = some (.str x))
  (F : Fx prog w hb sc hF O s.heap env ρ) (K : Stk hb A s.heap) {Q : Flow → Shared → Prop}
  (hE : ∀ ea h₁ h' tk,Keep s.heap h₁ → Made' h₁ h' ea (.ref C) x → E (.ref ea) { s with heap:=h',toks:=tk }) :
  wpAny (model prog w) A (exec (.Raise (some (.Call (.Name c np) [e] [] cpos)) none pos) env) Q E s:=by
 obtain ⟨bmB,newId,Bn,inN,bmN,Bx,nid,initId,OC,Fn,hBn,FB⟩:=hc
 obtain ⟨tl,N,nm,q,bs,hdct,sn,sub,ab,col,dd,k0,k1,k2,k3,k5,mN,hC,hN,hni,TT⟩:=OC.obj
 have hl:=evList_one hs h
 refine wpAny_Raise_call_subU (C:=C) (nm:=nm) (q:=q) (N:=N) (bs:=bs) (bm:=tl) (hdct:=hdct) (sn:=sn) (sub:=sub) (ab:=ab) (col:=col) (dd:=dd) (k0:=k0) (k1:=k1) (k2:=k2) (k3:=k3) (k5:=k5)
  Fn hBn FB (mN:=mN) (TT.hasType FB.hasBase) (rm.hand rfl) (any_false hl) hni (nameG_ok B.G F hg OC.bound ⟨rfl,?_⟩)
 exact evArgs_ok B.ex rm hl F K fun vs h' tk k rs => rs.oneE fun u r1 => r1.strE fun t => ⟨rfl,(by show 1 ≤ sizeLine;rw [sizeLine_eq];omega),(F.base.trans k).same hC (by simp),ns_keep hN (F.base.trans k),OwnTail.keepK TT (F.base.trans k),fun h'' ea hm => hE ea h' h'' tk k ⟨t,hm⟩⟩
theorem bindT_off {t : Expr} {d : PyData} {ρ ρ' : Vars} (h : bindT sc t d ρ = some ρ') {y : Str} (hy : y ∉ namesT t) : ρ'.lookup y = ρ.lookup y:=by
 rcases bindT_inv h with ⟨x,p,rfl,hx,rfl⟩ | ⟨es,k,p,ds,rfl,rfl,hb⟩
 ·exact (setV_lookup ..).trans (if_neg fun q => hy (List.mem_singleton.mpr q))
 ·exact bindAll_keeps hb y fun x hx q => hy (q ▸ hx)
theorem offT_ok {t : Expr} (h : offT ow t = true) {x : Str} (hx : ow = some x) : x ∉ namesT t:=by
 subst hx
 exact fun z => by rw [show offT (some x) t = !(namesT t).contains x from rfl,List.contains_iff_mem.mpr z] at h;cases h
theorem target_ok (rm : Rm false hb n A) {t : Expr} (hY : ∀ y ∈ namesT t,y ∈ X) {σ : St} {oa : Option Addr} {d : PyData} {ρ' : Vars} {v : Value} (h : bindT sc t d σ.ρ = some ρ') (ho : offT ow t = true) (hw : OwIs ow σ) (q : Fs prog w hb sc hF O s.heap env σ oa) (rv : Rep prog w O s.heap v d)
  {Q : Unit → Shared → Prop} (hQ : ∀ h' tk,Aft prog w hb sc ow X hF env O s.heap oa O h' { σ with ρ:=ρ' } oa → Q () { s with heap:=h',toks:=tk }) : wpAny (model prog w) A (assign t env v) Q E s :=
 bindT_ok (fun ζ => rm.hand rfl) h q.F rv fun h' tk F' k kp => hQ h' tk (Aft.stored hY q hw F' k kp fun ζ e => ⟨offT_ok ho e,bindT_off h (offT_ok ho e)⟩)
theorem Aft.mut {h' : Heap} {σ : St} {a : Addr} {x : Str} {ds ds' : List PyData} {vs vs' : List Value} (q : Fs prog w hb sc hF O s.heap env σ (some a)) (hw : OwIs ow σ) (ho : σ.own = some (x,ds)) (w' : OwnAt prog w sc hF O s.heap env σ.ρ x ds a vs) (k : KeepBut (· = a) s.heap h') (pl : PL h' a vs') (rs : RepAll prog w O h' vs' ds') :
  Aft prog w hb sc ow X hF env O s.heap (some a) O h' { σ with own:=some (x,ds') } (some a) :=
 let ⟨_,hn,_⟩:=q.F.F.ns
 have kp:=Kept.of_off (sc:=sc) hn k w'.ns
 ⟨⟨q.F.chgD w'.o w'.ns w'.new k (let ⟨_,e⟩:=pl;⟨_,e⟩),.inr ⟨x,ds',a,vs',rfl,rfl,{ o:=w'.o,new:=w'.new,ns:=w'.ns,pl:=pl,rs:=rs,vi:=kp.vk _ _ nofun w'.vi,nx:=w'.nx }⟩⟩,fun z zs e => (by cases e;exact hw _ _ ho),fun ζ z => z,fun ζ z => .inl z,k.mono fun b z => .inr (z ▸ rfl),kp.lc,fun ζ z => z,fun ζ z => .inl z,fun y v ζ z => kp.vk y v nofun z⟩
theorem ownMethod_ok (B : Bd prog w T hb mg mb cl n r) (rm : Rm false hb n A) {σ : St} {oa : Option Addr} {e : Expr} {d : PyData} {x : Str} {ds ds' : List PyData} {m : String} {id : String} {np apos cpos pos : Pos} (h : r.ex sc σ.ρ e = some d) (hs : isStar e = false) (hl : (apos.endLine == cpos.line) = true)
  (ho : σ.own = some (x,ds)) (hw : OwIs ow σ) (q : Fs prog w hb sc hF O s.heap env σ oa) (K : Stk hb A s.heap) (slot : Slot "list" (Str.ofString m) id) (ty : typeOf (.builtin id) = pure (.type "method_descriptor"))
  (rule : ∀ (a : Addr) (vs : List Value) (v : Value) (s' : Shared) (Q : Value → Shared → Prop),PL s'.heap a vs → RepAll prog w O s'.heap vs ds → Rep prog w O s'.heap v d →
   (∀ h' vs',PL h' a vs' → (∀ h'',KeepBut O s'.heap h'' → RepAll prog w O h'' vs' ds') → Heap.SameBut a s'.heap h' → Q .none { s' with heap:=h' }) → wpAny (model prog w) A (call (.builtin id) [.ref a,v]) Q E s')
  {Q : Flow → Shared → Prop} (hQ : ∀ h' tk,Aft prog w hb sc ow X hF env O s.heap oa O h' { σ with own:=some (x,ds') } oa → Q .next { s with heap:=h',toks:=tk }) :
  wpAny (model prog w) A (exec (.Expr (.Call (.Attribute (.Name x np) (Str.ofString m) apos) [e] [] cpos) pos) env) Q E s:=by
 obtain ⟨a,vs,rfl,w'⟩:=own_at q ho
 have hle:=evList_one hs h
 have hany : (backTo cpos (starEach [e] env)).any (·.1) = false:=any_false hle
 have hall : (backTo cpos (starEach [e] env)).all (fun x => !x.1) = true:=by
  rw [List.all_eq_not_any_not,show (fun x : Bool × Sem Value => !!x.1) = (·.1) from funext fun x => Bool.not_not _,hany];rfl
 have hi : interactive env = false:=by unfold interactive;rw [q.F.F.kind];rfl
 refine wpAny_Expr_any (wpAny_Call_method_lateS rfl (by rw [hall];rfl) hl (w'.vi.name q.F.F ?_)) hi
 refine ⟨"list",id,PySem.F.plainAttrs_list,slot,ty,w'.pl.isList.typeIs,(fun b e => by cases e;obtain ⟨_,ho⟩:=w'.pl;exact ⟨_,ho,rfl⟩),Calls.callWith_builtin hany (evArgs_ok B.ex rm hle q.F K fun us h' tk k rs => rs.oneE fun v r1 => ?_)⟩
 refine rule a vs v { s with heap:=h',toks:=tk } _ (w'.pl.keepK k) (w'.rs.keep k) r1 fun h'' vs' pl rs' sb => ?_
 have kb : KeepBut (· = a) h' h'':=KeepBut.of_sameBut sb rfl
 exact hQ h'' tk ((Aft.ofKeep q hw k).trans q (Aft.mut (s:={ s with heap:=h',toks:=tk }) (q.keeps k) hw ho ⟨w'.o,w'.new,w'.ns,w'.pl.keepK k,w'.rs.keep k,w'.vi.keep k,w'.nx⟩ kb pl (rs' h'' (kb.mono fun b z => z ▸ w'.o))))
end
end
section
variable [bs : Base]
section
variable {prog : Program} {w : World} {T : Tab} {hb : Heap} {mg mb : Str → Option Value} {cl : Str → Option Value} {n : Nat} {A : Around} {r : Evs}
variable {sc : Names} {ow : Option Str} {X : List Str} {hF : Heap} {env : Env} {s : Shared} {O : Addr → Prop} {ρ : Vars} {E : Value → Shared → Prop}
noncomputable def Behind (prog : Program) (w : World) (hb : Heap) (sc : Names) (ow : Option Str) (X : List Str) (hF : Heap) (env : Env) (O : Addr → Prop) (hS : Heap) (oa : Option Addr) (s : Shared) (R : Result → Shared → Prop) (p : Out × St) : Prop :=
 ∀ (O' : Addr → Prop) h' tk oa' fl,FlowIs prog w hF O' h' fl p.1 → Aft prog w hb sc ow X hF env O hS oa O' h' p.2 oa' → R (.ok fl) { s with heap:=h',toks:=tk }
variable (B : Bd prog w T hb mg mb cl n r) (Ss : SsOk prog w hb cl n r.ss) (rm : Rm false hb n A)
include Ss rm in
theorem body_ok {O₀ : Addr → Prop} {hS : Heap} {σ₀ : St} {oa₀ : Option Addr} (q₀ : Fs prog w hb sc hF O₀ hS env σ₀ oa₀) (K₀ : Stk hb A hS) {body : List Stmt} (hX : ∀ x ∈ stL body,x ∈ X) {σ : St} {oa : Option Addr} {p : Out × St} (h : okR (r.ss sc ow σ body) = some p)
  (a : Aft prog w hb sc ow X hF env O₀ hS oa₀ O s.heap σ oa) {loop : Shared → Prop} {R : Result → Shared → Prop} {E : Value → Shared → Prop}
  (hN : p.1 = .next → ∀ (O' : Addr → Prop) h' tk oa',Aft prog w hb sc ow X hF env O s.heap oa O' h' p.2 oa' → loop { s with heap:=h',toks:=tk })
  (hR : ∀ o,(o = .next ∧ p.1 = .brk) ∨ (o = p.1 ∧ p.1 ≠ .next ∧ p.1 ≠ .brk) → Behind prog w hb sc ow X hF env O₀ hS oa₀ s R (o,p.2)) :
  wpAny (model prog w) A (execs body env) (fun f s₄ => match f with
   | .next | .cont => loop s₄
   | .brk => R (.ok .next) s₄
   | .ret v => R (.ok (.ret v)) s₄) E s:=by
 refine Ss sc ow σ body _ (okR_inv h) X hX A s env hF O oa _ E rm a.ow a.fs (a.stk q₀ K₀) (fun out₁ σ₂ e O' h' tk oa' fl hfl aft => ?_) (fun ζ e => nomatch e)
 have e' : p = (out₁,σ₂):=Except.ok.inj e
 subst e'
 clear e h
 cases out₁ with
 | next => cases hfl;exact hN rfl O' h' tk oa' aft
 | brk => cases hfl;exact hR .next (.inl ⟨rfl,rfl⟩) O' h' tk oa' .next rfl (a.trans q₀ aft)
 | ret d => obtain ⟨v,rfl,hv⟩:=hfl;exact hR (.ret d) (.inr ⟨rfl,nofun,nofun⟩) O' h' tk oa' _ ⟨v,rfl,hv⟩ (a.trans q₀ aft)
theorem rest_inv {p : Out × St} {f : St → Option (Out × St)} {q : Out × St} (h : (match p.1 with
   | .next => f p.2
   | .brk => some (.next,p.2)
   | .ret d => some (.ret d,p.2)) = some q) : (p.1 = .next → f p.2 = some q) ∧ ∀ o,(o = .next ∧ p.1 = .brk) ∨ (o = p.1 ∧ p.1 ≠ .next ∧ p.1 ≠ .brk) → q = (o,p.2):=by
 obtain ⟨out,σ⟩:=p
 cases out with
 | next => exact ⟨fun ζ => h,fun o z => z.elim (fun z => nomatch z.2) fun z => absurd rfl z.2.1⟩
 | brk => exact ⟨nofun,fun o z => z.elim (fun z => by rw [z.1];exact (Option.some.inj h).symm) fun z => absurd rfl z.2.2⟩
 | ret d => exact ⟨nofun,fun o z => z.elim (fun z => nomatch z.2) fun z => by rw [z.1];exact (Option.some.inj h).symm⟩
include B Ss rm in
theorem whileGo_ok {test : Expr} {body : List Stmt} (hX : ∀ x ∈ stL body,x ∈ X) {O₀ : Addr → Prop} {hS : Heap} {σ₀ : St} {oa₀ : Option Addr} (q₀ : Fs prog w hb sc hF O₀ hS env σ₀ oa₀) (K₀ : Stk hb A hS) (k : Nat) (σ : St) (p : Out × St) (h : whileGo r sc ow test body k σ = some p) (s : Shared) (O : Addr → Prop) (oa : Option Addr) (R : Result → Shared → Prop)
  (a : Aft prog w hb sc ow X hF env O₀ hS oa₀ O s.heap σ oa) (hR : Behind prog w hb sc ow X hF env O₀ hS oa₀ s R p) : codeAny (model prog w) A (.whileLoop test body [] env) R s:=by
 induction k generalizing σ s O oa with
 | zero => exact nomatch h
 | succ k ih =>
  obtain ⟨b,ht,h⟩:=bMp h
  refine whileLoop_step (trO_ok B.tr rm ht a.fs (a.stk q₀ K₀) fun s₁ p1 => ?_)
  obtain ⟨h₁,tk₁,rfl,k1⟩:=p1
  have a1:=a.trans q₀ (Aft.ofKeep a.fs a.ow k1)
  cases b with
  | true =>
   obtain ⟨p₁,hb1,h⟩:=bMp h
   obtain ⟨r1,r2⟩:=rest_inv h
   exact body_ok (s:={ s with heap:=h₁,toks:=tk₁ }) Ss rm q₀ K₀ hX hb1 a1 (fun e O' h' tk oa' aft => ih p₁.2 (r1 e) _ O' oa' (a1.trans q₀ aft) hR) fun o z => r2 o z ▸ hR
  | false => obtain rfl:=Option.some.inj h;exact wpAny_pure (hR O h₁ tk₁ oa .next rfl a1)
theorem OwnI.grow {O' : Addr → Prop} {h h' : Heap} {o : Option (Str × List PyData)} {oa : Option Addr} (q : OwnI prog w sc hF O h env ρ o oa) (k : Keep h h') (sub : ∀ a,O a → O' a) (new : ∀ a,O' a → O a ∨ h.get? a = Option.none) : OwnI prog w sc hF O' h' env ρ o oa :=
 q.go fun ζ ζ ζ ζ ζ ζ w => ⟨sub _ w.o,w.pl.keepK k,(w.rs.more new).keep k,w.vi.keep k,w.nx⟩
theorem own_tree {h : Heap} {σ : St} {oa : Option Addr} {a : Addr} (q : Fs prog w hb sc hF O h env σ oa) (e : oa = some a) : O a ∧ ∃ o,h.get? a = some o ∧ Tree o:=by
 rcases q.own with ⟨_,e'⟩ | ⟨_,_,_,_,_,e',w'⟩
 ·exact nomatch e.symm.trans e'
 ·cases e.symm.trans e';exact let ⟨_,ho⟩:=w'.pl;⟨w'.o,_,ho,.inl rfl⟩
theorem Aft.chgJ {h hS h₂ : Heap} {O₀ O' : Addr → Prop} {σ : St} {oa oa₀ : Option Addr} {J : Addr → Prop} (x : Aft prog w hb sc ow X hF env O₀ hS oa₀ O h σ oa) (k : KeepBut J h h₂) (hS0 : ∀ b,J b → hS.get? b = none) (hO : ∀ b,J b → O b) (nS : ∀ b,J b → ¬ Sl env b)
  (he : ∀ b,J b → ∃ o,h.get? b = some o ∧ ¬ Tree o) (hO' : ∀ b,LessJ O J b → O' b) (sub' : ∀ b,O' b → O b) (F : Fx prog w hb sc hF O' h₂ env σ.ρ) (old : ∀ b,O₀ b → ¬ J b) : Aft prog w hb sc ow X hF env O₀ hS oa₀ O' h₂ σ oa :=
 let ⟨_,hn⟩:=x.fs.ns
 have kp:=Kept.of_offJ (sc:=sc) hn k nS
 {fs:=⟨F,x.fs.own.go fun ζ ζ a ζ e1 e2 w' =>
   have ha : ¬ J a:=fun z => let ⟨_,ho,nt⟩:=he a z;let ⟨_,e⟩:=w'.pl;nt (Option.some.inj (ho.symm.trans e) ▸ .inl rfl)
   ⟨hO' a ⟨w'.o,ha⟩,w'.pl.off k ha,(w'.rs.keepBut (k.mono hO)).less sub',kp.vk _ _ nofun w'.vi,w'.nx⟩⟩
  ow:=x.ow
  sub:=fun a z => hO' a ⟨x.sub a z,old a z⟩
  new:=fun a z => x.new a (sub' a z)
  keep:=fun b o nb e => let ⟨o₁,e₁,a₁⟩:=x.keep b o nb e;let ⟨o₂,e₂,a₂⟩:=k b o₁ (fun q => (nomatch e.symm.trans (hS0 b q))) e₁;⟨o₂,e₂,a₁.trans a₂⟩
  lc:=x.lc.trans kp.lc
  own:=x.own
  ownN:=x.ownN
  vk:=fun y v n z => kp.vk y v nofun (x.vk y v n z) }
include Ss rm in
theorem forGo_ok {target : Expr} {body orelse : List Stmt} (hX : ∀ x ∈ namesT target ++ (stL body ++ stL orelse),x ∈ X) (hoff : offT ow target = true) {O₀ : Addr → Prop} {hS : Heap} {σ₀ : St} {oa₀ : Option Addr} (q₀ : Fs prog w hb sc hF O₀ hS env σ₀ oa₀) (K₀ : Stk hb A hS) {OI J : Addr → Prop} {h₀ : Heap} {I : Addr} {all : List PyData} {St : Nat → Heap → Prop}
  (it : It prog w A target OI h₀ I J all St) (nS : ∀ b,J b → ¬ Sl env b) (hSI : ∀ b,J b → hS.get? b = none)
  (ds : List PyData) (σ : Mine.St) (p : Out × Mine.St) (h : forGo r sc ow target body orelse ds σ = some p) (s : Shared) (O : Addr → Prop) (oa : Option Addr) (i : Nat) (R : Result → Shared → Prop)
   (hdrop : all.drop i = ds) (hile : i ≤ all.length) (st : St i s.heap) (gr : Grow OI h₀ J O) (kb : KeepBut O h₀ s.heap) (aft : Aft prog w hb sc ow X hF env O₀ hS oa₀ O s.heap σ oa)
   (hR : Behind prog w hb sc ow X hF env O₀ hS oa₀ s R p) : codeAny (model prog w) A (.forLoop target (.ref I) body orelse env) R s:=by
 have hFI : ∀ b,J b → hF.get? b = none:=fun b z => q₀.F.F.keep.none (hSI b z)
 have nO₀ : ∀ b,O₀ b → ¬ J b:=fun b z y => q₀.F.F.old.not (hSI b y) z
 refine forLoop_step ?_
 induction ds generalizing σ s O oa i with
 | nil =>
  have hie : i = all.length:=Nat.le_antisymm hile (List.drop_eq_nil_iff.mp hdrop)
  subst hie
  refine it.done s _ _ st fun h' tk k => ?_
  have a1:=aft.chgJ k hSI gr.self nS (it.ex _ _ st) (fun ζ z => z) (fun ζ z => z.1) (aft.fs.F.dropJ gr.self nS hFI k) nO₀
  exact Ss sc ow σ orelse _ (okR_inv h) X (fun x hx => hX x (List.mem_append_right _ (List.mem_append_right _ hx))) A _ env hF (LessJ O J) oa _ _ rm a1.ow a1.fs (a1.stk q₀ K₀) (fun out₁ σ₂ e O' h' tk oa' fl hfl aft' => hR O' h' tk oa' fl (by rw [Except.ok.inj e];exact hfl) (by rw [Except.ok.inj e];exact a1.trans q₀ aft')) (fun ζ e => nomatch e)
 | cons d ds ih =>
  have hd : all[i]? = some d:=by rw [← List.head?_drop,hdrop];rfl
  have hilt : i < all.length:=(List.getElem?_eq_some_iff.mp hd).1
  have hdrop' : all.drop (i + 1) = ds:=by rw [← List.tail_drop,hdrop];rfl
  obtain ⟨ρ',hb1,h⟩:=bMp h
  obtain ⟨p₁,hb2,h⟩:=bMp h
  obtain ⟨r1,r2⟩:=rest_inv h
  refine it.turn i d s _ _ _ _ O gr aft.fs.F.F.old kb hd st fun v h₂ tk₂ rv st₂ k12 => ?_
  have ex₂:=it.ex _ _ st₂
  have a2 : Aft prog w hb sc ow X hF env O₀ hS oa₀ O h₂ σ oa:=aft.chgJ k12 hSI gr.self nS (it.ex _ _ st) (fun ζ z => z.1) (fun ζ z => z) (aft.fs.F.chgJ gr.self nS hFI k12 fun b z => let ⟨o,ho,_⟩:=ex₂ b z;⟨o,ho⟩) nO₀
  refine target_ok (s:={ s with heap:=h₂,toks:=tk₂ }) rm (fun x hx => hX x (List.mem_append_left _ hx)) hb1 hoff a2.ow a2.fs rv fun h₃ tk₃ a3 => ?_
  refine body_ok (s:={ s with heap:=h₃,toks:=tk₃ }) Ss rm q₀ K₀ (fun x hx => hX x (List.mem_append_right _ (List.mem_append_left _ hx))) hb2 (a2.trans q₀ a3) (fun e O' h' tk oa' aft' => ?_) fun o z => r2 o z ▸ hR
  have x:=a3.trans a2.fs aft'
  have subC : ∀ b,ChgS hF O env oa b → O b:=fun b z => z.elim (fun z => z.1.1) fun z => (own_tree a2.fs z).1
  have nI : ∀ b,J b → ¬ ChgS hF O env oa b:=fun b y z => z.elim (fun z => nS b y z.2) fun z => (let ⟨_,o,ho,t⟩:=own_tree a2.fs z;let ⟨_,ho',nt⟩:=ex₂ b y;nt (Option.some.inj (ho.symm.trans ho') ▸ t))
  have h0n : ∀ a,¬ O a → h₂.get? a = none → h₀.get? a = none:=fun a hOa y => by
   cases e : h₀.get? a with
   | none => rfl
   | some o =>
    obtain ⟨o',e',_⟩:=kb a o hOa e
    obtain ⟨o'',e'',_⟩:=k12 a o' (fun q => hOa (gr.self a q)) e'
    cases e''.symm.trans y
  refine forLoop_step (ih p₁.2 (r1 e) _ O' oa' (i + 1) hdrop' hilt ?_ ⟨fun a z => x.sub a (gr.sub a z),fun a z => x.sub a (gr.self a z),fun a z => ?_⟩ (((kb.trans (k12.mono gr.self)).mono x.sub).trans (x.keep.mono fun b z => x.sub b (subC b z))) (a2.trans q₀ x) hR)
  ·exact it.frame (i + 1) h₂ h' st₂ fun b o hc hbI e => x.keep.same (fun z => hbI.elim (fun y => nI b y z) fun ⟨nO,o',eo⟩ => (gr.new b (subC b z)).elim nO fun y => y.elim (fun y => nI b y z) fun y => (nomatch y.symm.trans eo)) e hc
  ·by_cases hOa : O a
   ·exact gr.new a hOa
   ·exact (x.new a z).elim (gr.new a) fun y => .inr (.inr (h0n a hOa y))
end
end
section
open AutoSeq1 (wpAny_loadPart')
variable [bs : Base]
theorem stack_bool {M : Model} {A : Around} {α : Type} {E : Value → Shared → Prop} {s : Shared} {Q : α → Shared → Prop} {g : List (Code × Pos) → Bool} {f : Bool → Sem α} (h : ∀ b,wpAny M A (f b) Q E s) : wpAny M A stack (fun st s' => wpAny M A (pure (g st)) (fun b s'' => wpAny M A (f b) Q E s'') E s') E s :=
 wpAny_stack_any fun ζ => wpAny_pure (h _)
set_option maxRecDepth 100000 in
theorem enum_made (l : Addr) (items : Array Value) (n : Nat) :
  Meets (Builtin.«enumerate.__new__» ⟨[.type "enumerate",.ref l],[]⟩) (fun ζ R s => s.heap.get? l = some { cls:=.type "tuple",data:=.seq items n } ∧
   R (.ok (.ret (.ref (s.heap.push { cls:=.type "tuple_iterator",data:=.fields #[.ref l,.int 0 0] }).objs.size)))
    {s with heap:=(s.heap.push { cls:=.type "tuple_iterator",data:=.fields #[.ref l,.int 0 0] }).push { cls:=.type "enumerate",data:=.fields #[.none,.bool false,.ref s.heap.objs.size,rawInt 0,.none,.none] } }) :=
 .of_wp fun prog w A R s h => by
  obtain ⟨hp,g,d,tk,os⟩:=s;obtain ⟨hl,h⟩:=h
  have hsub:=sub_enumerate
  have hL : Heap.IsTuple (Shared.heap ⟨hp,g,d,tk,os⟩) l items:=⟨_,hl,rfl,n,rfl⟩
  wp_walk using wpAny_loadPart' hl
  refine stack_bool fun b => ?_
  cases b <;> (wp_walk using wpAny_loadPart' hl,wpAny_pyIter_tuple hL;exact ⟨_,rfl,h⟩)
section
variable {prog : Program} {w : World} {A : Around} {E : Value → Shared → Prop} {s : Shared}
structure EnT (h : Heap) (e it t : Addr) (items : Array Value) (i : Nat) : Prop where
 en : ∃ old,IsEnum h e it (i : Int) old
 iter : h.IsTupleIter it t i
 tup : h.IsTuple t items
 ne : e ≠ it
theorem call_enum {l : Addr} {vs : List Value} {Q : Value → Shared → Prop} (hL : PT s.heap l vs)
  (h : ∀ h' e it,EnT h' e it l vs.toArray 0 → s.heap.get? e = none → s.heap.get? it = none → Keep s.heap h' → Q (.ref e) { s with heap:=h' }) :
  wpAny (model prog w) A (call (.type "enumerate") [.ref l]) Q E s:=by
 obtain ⟨n,hl⟩:=id hL
 refine callType_new F.called_enumerate (by decide) (F.typeCall_enumerate_1 _) (F.newCall_enumerate_1 _) (fun obj => F.args_object_init_2 obj _) F.entry_enumerate_new (enum_made l vs.toArray n) ⟨hl,?_⟩
 have k1 : Keep s.heap (s.heap.push { cls:=.type "tuple_iterator",data:=.fields #[.ref l,.int 0 0] }):=Keep.push _ _
 have hit:=Heap.get?_push_size s.heap (o:={ cls:=.type "tuple_iterator",data:=.fields #[.ref l,.int 0 0] }) rfl
 generalize hh₁ : s.heap.push { cls:=.type "tuple_iterator",data:=.fields #[.ref l,.int 0 0] } = h₁ at k1 hit ⊢
 have k2 : Keep h₁ (h₁.push { cls:=.type "enumerate",data:=.fields #[.none,.bool false,.ref s.heap.objs.size,rawInt 0,.none,.none] }):=Keep.push _ _
 have hen:=Heap.get?_push_size h₁ (o:={ cls:=.type "enumerate",data:=.fields #[.none,.bool false,.ref s.heap.objs.size,rawInt 0,.none,.none] }) rfl
 show _ ∧ _
 refine ⟨⟨_,hen,rfl⟩,h _ _ s.heap.objs.size ⟨⟨.none,hen⟩,⟨_,k2.same hit (by simp),rfl,rfl⟩,(hL.keepK (k1.trans k2)).isTuple,?_⟩ (k1.none (fresh_size _)) (fresh_size _) (k1.trans k2)⟩
 intro q
 have:=fresh_size h₁
 rw [q,hit] at this;cases this
theorem EnT.at {h h' : Heap} {e it t : Addr} {items : Array Value} {i : Nat} (x : EnT h e it t items i) (k : ∀ b o,(b = e ∨ b = it ∨ b = t) → h.get? b = some o → h'.get? b = some o) : EnT h' e it t items i :=
 ⟨let ⟨old,ho⟩:=x.en;⟨old,k _ _ (.inl rfl) ho⟩,let ⟨o,ho,r⟩:=x.iter;⟨o,k _ _ (.inr (.inl rfl)) ho,r⟩,let ⟨o,ho,r⟩:=x.tup;⟨o,k _ _ (.inr (.inr rfl)) ho,r⟩,x.ne⟩
theorem nextOf_item {it t : Addr} {i : Nat} {items : Array Value} {x : Value} {Q : Value → Shared → Prop} (hit : s.heap.IsTupleIter it t i) (ht : s.heap.IsTuple t items) (hx : items[i]? = some x)
  (hQ : ∀ h',h'.IsTupleIter it t (i + 1) → Heap.SameBut it s.heap h' → Q x { s with heap:=h' }) : wpAny (model prog w) A (Builtin.SmallTypes.nextOf (.ref it)) Q E s:=by
 obtain ⟨o,ho,hc,hd⟩:=id hit
 obtain ⟨ot,hot,_,nt,hdt⟩:=ht
 have fin : (s.heap.update it (Obj.mapFields (·.setIfInBounds 1 (rawInt ((i : Int) + 1))))).IsTupleIter it t (i + 1) :=
  ⟨_,Heap.get?_update_self _ ho (Obj.isFreed_of_fields (Obj.data_mapFields hd _)),(Obj.cls_mapFields ..).trans hc,by rw [Obj.data_mapFields hd];simp [rawInt]⟩
 unfold Builtin.SmallTypes.nextOf
 refine wpAny_bind (wpAny_callSpecial?_slot (name:=Str.ofString "__next__") hit.typeIs F.slot_tuple_iterator_next (wpAny_call_entry F.slot_tuple_iterator_next hit.typeIs F.entry_tuple_iterator_next ?_ (F.args_tuple_iterator_next_1 _)))
 show wpAny _ _ (field (.ref it) 0 >>= _) _ _ s
 refine wpAny_bind (wpAny_field ho hd (x:=.ref t) rfl ?_)
 show wpAny _ _ (if (Value.ref t == Value.none) = true then _ else _) _ _ s
 rw [if_neg (show ¬ ((Value.ref t == Value.none) = true) from Bool.false_ne_true)]
 show wpAny _ _ (field (.ref it) 1 >>= _) _ _ s
 refine wpAny_bind (wpAny_field ho hd (x:=.int i 0) rfl ?_)
 show wpAny _ _ (seqItems? (.ref t) >>= _) _ _ s
 refine wpAny_bind (wpAny_seqItems hot hdt ?_)
 simp only [Int.toNat_natCast,hx]
 exact wpAny_bind (wpAny_setField ho hd (by simp) (wpAny_pure ⟨x,rfl,wpAny_pure (hQ _ fin (Heap.SameBut.update ..))⟩))
theorem nextOf_end {it t : Addr} {i : Nat} {items : Array Value} {Q : Value → Shared → Prop} (hh : A.handled = none) (hit : s.heap.IsTupleIter it t i) (ht : s.heap.IsTuple t items) (hx : items[i]? = none)
  (hE : ∀ h' e,Heap.ExtBut it s.heap h' → (∃ o,h'.get? e = some o ∧ o.cls = .type "StopIteration") → E (.ref e) { s with heap:=h' }) : wpAny (model prog w) A (Builtin.SmallTypes.nextOf (.ref it)) Q E s:=by
 obtain ⟨o,ho,hc,hd⟩:=id hit
 obtain ⟨ot,hot,_,nt,hdt⟩:=ht
 unfold Builtin.SmallTypes.nextOf
 refine wpAny_bind (wpAny_callSpecial?_slot (name:=Str.ofString "__next__") hit.typeIs F.slot_tuple_iterator_next (wpAny_call_entry F.slot_tuple_iterator_next hit.typeIs F.entry_tuple_iterator_next ?_ (F.args_tuple_iterator_next_1 _)))
 show wpAny _ _ (field (.ref it) 0 >>= _) _ _ s
 refine wpAny_bind (wpAny_field ho hd (x:=.ref t) rfl ?_)
 show wpAny _ _ (if (Value.ref t == Value.none) = true then _ else _) _ _ s
 rw [if_neg (show ¬ ((Value.ref t == Value.none) = true) from Bool.false_ne_true)]
 show wpAny _ _ (field (.ref it) 1 >>= _) _ _ s
 refine wpAny_bind (wpAny_field ho hd (x:=.int i 0) rfl ?_)
 show wpAny _ _ (seqItems? (.ref t) >>= _) _ _ s
 refine wpAny_bind (wpAny_seqItems hot hdt ?_)
 simp only [Int.toNat_natCast,hx]
 refine wpAny_bind (wpAny_rule (wpAny_bind (wpAny_setField ho hd (by simp) ?_)))
 show wpAny _ _ (newExc (.type "StopIteration") [] >>= _) _ _ _
 refine wpAny_bind ?_
 simp only [newExc,newTuple]
 refine wpAny_bind (wpAny_newObj_type ?_ (by size_fits))
 refine wpAny_bind (m:=firstArgMember _ _) (wpAny_of_eq (a:=Value.none) (by first | rfl | (simp only [firstArgMember];rfl)) ?_)
 refine wpAny_newObj_type ?_ (by size_fits)
 simp only [raiseNew]
 refine wpAny_bind (wpAny_handled ?_)
 first | rw [show A.in1.handled = none from hh] | rw [hh]
 refine wpAny_bind (wpAny_pure (wpAny_throw ?_))
 exact hE _ _ (((Heap.SameBut.update ..).extBut.push _).push _) ⟨_,Heap.get?_push_size _ rfl,rfl⟩
theorem enum_item {e it t : Addr} {i : Nat} {items : Array Value} {x : Value} {N : Shared → Prop} {Q E' : Value → Shared → Prop} {es : List Expr} {k1 : Nat} {p1 : Pos} (x0 : EnT s.heap e it t items i) (hx : items[i]? = some x)
  (hQ : ∀ h' P tk tk',s.heap.get? P = none → EnT h' e it t items (i + 1) → PT h' P [.int i tk,x] → KeepBut (fun b => b = e ∨ b = it) s.heap h' → Q (.ref P) { s with heap:=h',toks:=tk' }) :
  turnW prog w A (.Tuple es k1 p1) e N Q E E' s:=by
 obtain ⟨⟨old,he⟩,hit,ht,hne⟩:=x0
 have hT : s.TypeIs (.ref e) "enumerate":=⟨_,he,rfl⟩
 have hte : t ≠ e:=fun q => by
  subst q
  obtain ⟨o,ho,hc,_⟩:=ht
  rw [he] at ho;obtain rfl:=Option.some.inj ho;simp at hc
 have hti : t ≠ it:=fun q => by
  subst q
  obtain ⟨o,ho,hc,_⟩:=ht
  obtain ⟨o',ho',hc',_⟩:=hit
  rw [ho] at ho';obtain rfl:=Option.some.inj ho';rw [hc] at hc';simp at hc'
 unfold turnW pyNext
 refine wpAny_bind (wpAny_attempt (wpAny_callSpecial?_slot (name:=Str.ofString "__next__") hT F.slot_enumerate_next
  (wpAny_call_entry F.slot_enumerate_next hT F.entry_enumerate_next ?_ (F.args_enumerate_next_1 _))))
 obtain ⟨hp,g,d,tk,os⟩:=s
 show wpAny _ _ (field (.ref e) 2 >>= _) _ _ _
 refine wpAny_bind (wpAny_field he rfl (x:=.ref it) rfl ?_)
 refine wpAny_bind (nextOf_item hit ht hx fun h₁ hit₁ hs₁ => ?_)
 replace hs₁ : Heap.SameBut it hp h₁:=hs₁
 have he₁ : IsEnum h₁ e it i old:=(hs₁.2 e hne).trans he
 show wpAny _ _ (field (.ref e) 3 >>= _) _ _ ⟨h₁,g,d,tk,os⟩
 refine wpAny_bind (wpAny_field he₁ rfl (x:=rawInt i) rfl ?_)
 show wpAny _ _ (field (.ref e) 4 >>= _) _ _ ⟨h₁,g,d,tk,os⟩
 refine wpAny_bind (wpAny_field he₁ rfl (x:=.none) rfl ?_)
 show wpAny _ _ (mkInt i >>= _) _ _ ⟨h₁,g,d,tk,os⟩
 refine wpAny_bind (wpAny_mkInt ?_)
 show wpAny _ _ (setField (.ref e) 3 (rawInt ((i : Int) + 1)) >>= _) _ _ ⟨h₁,g,d,tk + 1,os⟩
 refine wpAny_bind (wpAny_setField_rec he₁ (by simp) fun h₂ he₂ hs₂ => ?_)
 replace hs₂ : Heap.SameBut e h₁ h₂:=hs₂
 replace he₂ : IsEnum h₂ e it ((i : Int) + 1) old:=he₂
 show wpAny _ _ (setField (.ref e) 4 .none >>= _) _ _ ⟨h₂,g,d,tk + 1,os⟩
 refine wpAny_bind (wpAny_setField_rec he₂ (by simp) fun h₃ he₃ hs₃ => ?_)
 replace hs₃ : Heap.SameBut e h₂ h₃:=hs₃
 replace he₃ : IsEnum h₃ e it ((i : Int) + 1) old:=he₃
 have k03 : KeepBut (fun b => b = e ∨ b = it) hp h₃:=((KeepBut.of_sameBut hs₁ (.inr rfl)).trans (KeepBut.of_sameBut hs₂ (.inl rfl))).trans (KeepBut.of_sameBut hs₃ (.inl rfl))
 have hit₃ : h₃.IsTupleIter it t (i + 1):=(hit₁.extBut hs₂.extBut (Ne.symm hne)).extBut hs₃.extBut (Ne.symm hne)
 have hsz : h₃.objs.size = hp.objs.size:=by rw [hs₃.1,hs₂.1,hs₁.1]
 show wpAny _ _ (newTuple [.int i tk,x] >>= _) _ _ ⟨h₃,g,d,tk + 1,os⟩
 refine wpAny_bind (wpAny_newTuple ?_)
 have k34 : Keep h₃ (h₃.push { cls:=.type "tuple",data:=.seq #[.int i tk,x] }):=Keep.push _ _
 have he₄ : IsEnum (h₃.push { cls:=.type "tuple",data:=.seq #[.int i tk,x] }) e it ((i : Int) + 1) old:=Heap.get?_push_of_some _ he₃
 have hP₄ : PT (h₃.push { cls:=.type "tuple",data:=.seq #[.int i tk,x] }) h₃.objs.size [.int i tk,x]:=⟨0,Heap.get?_push_size _ rfl⟩
 have hPn : hp.get? h₃.objs.size = none:=by rw [hsz];exact fresh_size _
 generalize h₃.push { cls:=.type "tuple",data:=.seq #[.int i tk,x] } = h₄ at he₄ hP₄ k34 ⊢
 generalize h₃.objs.size = P at hP₄ hPn ⊢
 have hPe : P ≠ e:=fun q => by subst q;have he' : hp.get? P = _:=he;rw [hPn] at he';cases he'
 have k04 : KeepBut (fun b => b = e ∨ b = it) hp h₄:=k03.trans k34.but
 have hit₄ : h₄.IsTupleIter it t (i + 1):=let ⟨o,ho,hc,r⟩:=hit₃;⟨o,k34.same ho (by rw [hc];simp),hc,r⟩
 clear k03 hit₃ he₃ hs₃ he₂ hs₂ he₁ hs₁ hit₁
 show wpAny _ _ (Builtin.SmallTypes.ownedTupleIsFree (.ref e) >>= _) _ _ ⟨h₄,g,d,tk + 1,os⟩
 refine wpAny_bind ?_
 unfold Builtin.SmallTypes.ownedTupleIsFree
 refine wpAny_bind (wpAny_field he₄ rfl (x:=.none) rfl (wpAny_pure ?_))
 simp only [if_true]
 refine wpAny_bind (wpAny_rule ?_)
 refine wpAny_bind (wpAny_field he₄ rfl (x:=old) rfl ?_)
 refine wpAny_bind (wpAny_setField_rec he₄ (by simp) fun h₅ he₅ hs₅ => ?_)
 replace hs₅ : Heap.SameBut e h₄ h₅:=hs₅
 replace he₅ : IsEnum h₅ e it ((i : Int) + 1) x:=he₅
 show wpAny _ _ (Builtin.SmallTypes.ownedTupleHandOut (.ref e) (.ref P) >>= _) _ _ ⟨h₅,g,d,tk + 1,os⟩
 refine wpAny_bind ?_
 unfold Builtin.SmallTypes.ownedTupleHandOut
 refine wpAny_bind (wpAny_setField_rec he₅ (by simp) fun h₆ he₆ hs₆ => ?_)
 replace hs₆ : Heap.SameBut e h₅ h₆:=hs₆
 replace he₆ : IsEnumOut h₆ e it ((i : Int) + 1) x P:=he₆
 refine wpAny_setField_rec he₆ (by simp) fun h₇ he₇ hs₇ => ?_
 replace hs₇ : Heap.SameBut e h₆ h₇:=hs₇
 replace he₇ : IsEnumOut h₇ e it ((i : Int) + 1) x P:=he₇
 have k47 : KeepBut (· = e) h₄ h₇:=((KeepBut.of_sameBut (O:=(· = e)) hs₅ rfl).trans (KeepBut.of_sameBut (O:=(· = e)) hs₆ rfl)).trans (KeepBut.of_sameBut (O:=(· = e)) hs₇ rfl)
 refine wpAny_bind (wpAny_letGo (wpAny_pure ⟨_,rfl,wpAny_pure ?_⟩))
 refine wpAny_letOwnedTupleGo_enum he₇ fun h₈ he₈ hs₈ => ?_
 replace hs₈ : Heap.SameBut e h₇ h₈:=hs₈
 have k48 : KeepBut (· = e) h₄ h₈:=k47.trans (KeepBut.of_sameBut (O:=(· = e)) hs₈ rfl)
 have k08 : KeepBut (fun b => b = e ∨ b = it) hp h₈:=k04.trans (k48.mono fun b q => .inl q)
 have en8 : EnT h₈ e it t items (i + 1):=by
  refine ⟨⟨_,he₈⟩,?_,?_,hne⟩
  ·obtain ⟨o,ho,hc,r⟩:=hit₄
   exact ⟨o,k48.same (Ne.symm hne) ho (by rw [hc];simp),hc,r⟩
  ·obtain ⟨o,ho,hc,r⟩:=ht
   exact ⟨o,k08.same (fun z => z.elim hte hti) ho (by rw [hc];simp),hc,r⟩
 have pt8 : PT h₈ P [.int i tk,x]:=by
  obtain ⟨m,ho⟩:=hP₄
  exact ⟨m,k48.same hPe ho (by simp)⟩
 exact hQ h₈ P tk (tk + 1) hPn en8 pt8 k08
theorem enum_end {e it t : Addr} {i : Nat} {items : Array Value} {Q : Option Value → Shared → Prop} (hh : A.handled = none) (x0 : EnT s.heap e it t items i) (hx : items[i]? = none)
  (hQ : ∀ h',KeepBut (· = it) s.heap h' → Q none { s with heap:=h' }) : wpAny (model prog w) A (pyNext (.ref e)) Q E s:=by
 obtain ⟨⟨old,he⟩,hit,ht,hne⟩:=x0
 have hT : s.TypeIs (.ref e) "enumerate":=⟨_,he,rfl⟩
 unfold pyNext
 refine wpAny_bind (wpAny_attempt (wpAny_callSpecial?_slot (name:=Str.ofString "__next__") hT F.slot_enumerate_next
  (wpAny_call_entry F.slot_enumerate_next hT F.entry_enumerate_next ?_ (F.args_enumerate_next_1 _))))
 show wpAny _ _ (field (.ref e) 2 >>= _) _ _ _
 refine wpAny_bind (wpAny_field he rfl (x:=.ref it) rfl ?_)
 refine wpAny_bind (nextOf_end hh hit ht hx fun h' x he' hx' => ?_)
 obtain ⟨o,ho,hc⟩:=hx'
 refine wpAny_bind (wpAny_isInstance (T:="StopIteration") (b:=true) ⟨o,ho,hc⟩ isSubtype_stop ?_)
 exact wpAny_pure (hQ _ (KeepBut.of_extBut he' rfl))
theorem enumItems_at {ds : List PyData} {i : Nat} {d : PyData} (h : (enumItems ds)[i]? = some d) : ∃ x,ds[i]? = some x ∧ d = .tuple [.int (i : Int),x]:=by
 have hi : i < ds.length:=by
  have:=(List.getElem?_eq_some_iff.mp h).1
  unfold enumItems at this
  simpa using this
 unfold enumItems at h
 rw [List.getElem?_zipWith,List.getElem?_range hi,List.getElem?_eq_getElem hi] at h
 exact ⟨ds[i],List.getElem?_eq_getElem hi,(Option.some.inj h).symm⟩
theorem enumItems_length (ds : List PyData) : (enumItems ds).length = ds.length:=by unfold enumItems;simp
theorem EnT.notTree {h : Heap} {e it t : Addr} {items : Array Value} {i : Nat} (x : EnT h e it t items i) (b : Addr) (q : b = e ∨ b = it) : ∃ o,h.get? b = some o ∧ ¬ Tree o:=by
 rcases q with rfl | rfl
 ·exact let ⟨old,ho⟩:=x.en;⟨_,ho,tree_no (T:="enumerate") rfl (by decide)⟩
 ·exact let ⟨o,ho,hc,_⟩:=x.iter;⟨o,ho,tree_no hc (by decide)⟩
theorem enum_it (hh : A.handled = none) {O : Addr → Prop} {h₀ : Heap} {e it t : Addr} {vs : List Value} {xs : List PyData} {es : List Expr} {k1 : Nat} {p1 : Pos} (hrep : RepAll prog w O h₀ vs xs) (ht0 : ¬ O t) (st0 : EnT h₀ e it t vs.toArray 0) :
  It prog w A (.Tuple es k1 p1) O h₀ e (fun b => b = e ∨ b = it) (enumItems xs) (fun i h => EnT h e it t vs.toArray i) where
 ex:=fun ζ ζ x => x.notTree
 frame:=fun i h h' x k => x.at fun b o hb eb => by
  rcases hb with rfl | rfl | rfl
  ·exact let ⟨old,ho⟩:=x.en;k b o (by rw [← Option.some.inj ((show h.get? b = _ from ho).symm.trans eb)];simp) (.inl (.inl rfl)) eb
  ·exact let ⟨o',ho,hc,_⟩:=x.iter;k b o (by rw [← Option.some.inj (ho.symm.trans eb),hc];simp) (.inl (.inr rfl)) eb
  ·exact let ⟨o',ho,hc,_⟩:=x.tup;k b o (by rw [← Option.some.inj (ho.symm.trans eb),hc];simp) (.inr ⟨ht0,let ⟨o,ho,_⟩:=st0.tup;⟨o,ho⟩⟩) eb
 turn:=fun i d s N Q E E' O' g old kb hd st hQ => by
  obtain ⟨x,hx,rfl⟩:=enumItems_at hd
  obtain ⟨u,hu,ru⟩:=hrep.get' i x hx
  refine enum_item st (List.getElem?_toArray.trans hu) fun h' P tk tk' hP st' pt k => hQ _ h' tk' (.tuple (old.not hP) pt (.cons (.int _ _) (.cons ?_ .nil))) st' k
  exact ((ru.otherC fun a o ea tr nO z => (g.new a z).elim nO fun q => q.elim (fun q => let ⟨_,e',nt⟩:=st0.notTree a q;nt (Option.some.inj (ea.symm.trans e') ▸ tr)) fun q => nomatch q.symm.trans ea).keepBut kb).keepBut (k.mono g.self)
 done:=fun s Q E st hQ => enum_end hh st (show vs.toArray[(enumItems xs).length]? = none by rw [List.getElem?_toArray,enumItems_length,← hrep.length];exact List.getElem?_eq_none (Nat.le_refl _)) fun h' k => hQ h' s.toks (k.mono fun ζ q => .inr q)
 self:=fun i s Q E st hQ => let ⟨_,hen⟩:=st.en;wpAny_pyIter_enum hen hQ
end
end
section
variable [bs : Base]
section
variable {prog : Program} {w : World} {T : Tab} {hb : Heap} {mg mb : Str → Option Value} {cl : Str → Option Value} {n : Nat} {A : Around} {r : Evs}
variable {sc : Names} {ow : Option Str} {X : List Str} {hF : Heap} {env : Env} {s : Shared} {O : Addr → Prop} {oa : Option Addr} {σ : St} {E : Value → Shared → Prop} {Q : Flow → Shared → Prop}
noncomputable def ExcsOk (T : Tab) (hb : Heap) (mg : Str → Option Value) (cl : Str → Option Value) : Prop:=∀ c,c ∈ T.excs → ∃ C,cl c = some (.ref C) ∧ ExcAt hb mg c C
noncomputable def StAt (prog : Program) (w : World) (hb : Heap) (cl : Str → Option Value) (n : Nat) (sc : Names) (ow : Option Str) (σ : St) (st : Stmt) (res : Except Ex (Out × St)) : Prop :=
 ∀ (X : List Str),(∀ x ∈ stS st,x ∈ X) → ∀ (A : Around) (s : Shared) (env : Env) (hF : Heap) (O : Addr → Prop) (oa : Option Addr) (Q : Flow → Shared → Prop) (E : Value → Shared → Prop),
  Rm false hb n A → OwIs ow σ → Fs prog w hb sc hF O s.heap env σ oa → Stk hb A s.heap →
  (∀ out σ',res = .ok (out,σ') → ∀ (O' : Addr → Prop) h' tk oa' fl,FlowIs prog w hF O' h' fl out → Aft prog w hb sc ow X hF env O s.heap oa O' h' σ' oa' → Q fl { s with heap:=h',toks:=tk }) →
  (∀ x,res = .error x → ∀ e (O' : Addr → Prop) h₁ h' tk C σ' oa',cl x.cls = some C → Aft prog w hb sc ow X hF env O s.heap oa O' h₁ σ' oa' → Made' h₁ h' e C x.word → E (.ref e) { s with heap:=h',toks:=tk }) →
  wpAny (model prog w) A (exec st env) Q E s
noncomputable def After (prog : Program) (w : World) (hb : Heap) (sc : Names) (ow : Option Str) (X : List Str) (hF : Heap) (env : Env) (O : Addr → Prop) (oa : Option Addr) (s : Shared) (Q : Flow → Shared → Prop) (p : Out × St) : Prop :=
 ∀ (O' : Addr → Prop) h' tk oa' fl,FlowIs prog w hF O' h' fl p.1 → Aft prog w hb sc ow X hF env O s.heap oa O' h' p.2 oa' → Q fl { s with heap:=h',toks:=tk }
theorem StAt.of {st : Stmt} {z : Out × St} (k : ∀ (X : List Str),(∀ x ∈ stS st,x ∈ X) → ∀ (A : Around) (s : Shared) (env : Env) (hF : Heap) (O : Addr → Prop) (oa : Option Addr) (Q : Flow → Shared → Prop) (E : Value → Shared → Prop),
  Rm false hb n A → OwIs ow σ → Fs prog w hb sc hF O s.heap env σ oa → Stk hb A s.heap → After prog w hb sc ow X hF env O oa s Q z → wpAny (model prog w) A (exec st env) Q E s) : StAt prog w hb cl n sc ow σ st (.ok z) :=
 fun X hX A s env hF O oa Q E rm hw q K hQ ζ => k X hX A s env hF O oa Q E rm hw q K (hQ z.1 z.2 rfl)
variable (B : Bd prog w T hb mg mb cl n r) (XE : ExcsOk T hb mg cl) (Ss : SsOk prog w hb cl n r.ss)
include B in
theorem st_assign {x : Str} {p pos : Pos} {e : Expr} {z : Out × St} (h : asgE r sc ow σ x e = some z) : StAt prog w hb cl n sc ow σ (.Assign [.Name x p] e pos) (.ok z):=by
 obtain ⟨hx,h⟩:=ite_inv h
 by_cases how : ow = some x
 ·obtain ⟨hc,h⟩:=ite_inv ((if_pos how).symm.trans h)
  obtain ⟨ds,h1,rfl⟩:=oMp h
  obtain ⟨d,h2,h3⟩:=bMp h1
  rw [asList_inv h3] at h2
  exact .of fun X hX A s env hF O oa Q E rm hw q K hQ => assignOwn_ok B rm (hX x List.mem_cons_self) h2 hc.1 hc.2.1 (Option.isNone_iff_eq_none.mp hc.2.2) hx how q K fun O' h' tk oa' aft => hQ O' h' tk oa' .next rfl aft
 ·obtain ⟨d,h1,rfl⟩:=oMp ((if_neg how).symm.trans h)
  exact .of fun X hX A s env hF O oa Q E rm hw q K hQ => assign_ok B rm (hX x List.mem_cons_self) h1 hx how hw q K fun h' tk aft => hQ O h' tk oa .next rfl aft
include B in
theorem st_tuple {t e : Expr} {pos : Pos} {z : Out × St} (h : tupE r sc ow σ t e = some z) : StAt prog w hb cl n sc ow σ (.Assign [t] e pos) (.ok z):=by
 obtain ⟨⟨hoff,he⟩,e1⟩:=ite_inv h
 obtain ⟨y,hy⟩:=Option.isSome_iff_exists.mp he
 obtain ⟨es,hes,e2⟩:=bMp e1
 obtain ⟨d,h1,e3⟩:=bMp e2
 obtain ⟨ρ',h2,rfl⟩:=oMp e3
 clear h e1 e2 e3 he
 obtain ⟨p,rfl⟩:=nameOf_inv hy
 obtain ⟨k,p',rfl⟩:=tupOf_inv hes
 refine .of fun X hX A s env hF O oa Q E rm hw q K hQ => Assign_Tuple (B.ex sc σ.ρ _ d h1 A s env hF O _ E rm q.F K fun v s₁ pst => ?_)
 obtain ⟨h₁,tk₁,rfl,k1,rv⟩:=pst
 exact target_ok (s:={ s with heap:=h₁,toks:=tk₁ }) rm (fun x hx => hX x (List.mem_append_left _ hx)) h2 hoff hw (q.keeps k1) rv fun h' tk aft => hQ O h' tk oa .next rfl ((Aft.ofKeep q hw k1).trans q aft)
theorem reps_scalar {O O' : Addr → Prop} {h : Heap} {vs : List Value} {ds : List PyData} (hs : ds.all scalar = true) (r : RepAll prog w O h vs ds) : RepAll prog w O' h vs ds:=by
 induction ds generalizing vs with
 | nil => rw [show vs = [] from r.is];exact .nil
 | cons d ds ih =>
  obtain ⟨u,us,rfl,a,b⟩:=r.is
  obtain ⟨h1,h2⟩:=aMp hs
  exact .cons (rep_scalar h1 a) (ih h2 b)
theorem repAll_set {O : Addr → Prop} {h : Heap} {vs : List Value} {ds : List PyData} (rs : RepAll prog w O h vs ds) {v : Value} {d : PyData} (i : Nat) (r : Rep prog w O h v d) : RepAll prog w O h (vs.set i v) (ds.set i d):=by
 induction ds generalizing vs i with
 | nil => rw [show vs = [] from rs.is];exact .nil
 | cons d ds ih =>
  obtain ⟨u,us,rfl,a,b⟩:=rs.is
  cases i with
  | zero => exact .cons r b
  | succ i => exact .cons a (ih b i)
theorem subOf_inv {e : Expr} {p : Expr × Expr} (h : subOf e = some p) : ∃ pos,e = .Subscript p.1 p.2 pos:=by
 refine of_elim (P:=fun p => ∃ pos,e = .Subscript p.1 p.2 pos) ?_ h
 cases e with
 | Subscript v i p => exact ⟨p,rfl⟩
 | _ => trivial
theorem swaps_no {e : Expr} (hf : newForm e = true) (hc : isCompE e = false) (t : Option Expr) (line : Nat) : swapsWith e t line env = pure false:=by
 cases e with
 | List => cases t <;> rfl
 | BinOp => cases t <;> rfl
 | ListComp => exact nomatch hc
 | _ => exact nomatch hf
include B in
theorem st_sub {v i e : Expr} {p' pos : Pos} {z : Out × St} (h : subE r sc σ v i e = some z) : StAt prog w hb cl n sc ow σ (.Assign [.Subscript v i p'] e pos) (.ok z):=by
 obtain ⟨⟨x,ds⟩,ho,e1⟩:=bMp h
 obtain ⟨⟨hv,hf,hnc⟩,e2⟩:=ite_inv e1
 clear h e1
 obtain ⟨ds',e1,rfl⟩:=oMp e2
 obtain ⟨p,rfl⟩:=nameOf_inv hv
 obtain ⟨xs,e3,e4⟩:=bMp e1
 clear e1
 obtain ⟨d,h1,e5⟩:=bMp e3
 rw [asList_inv e5] at h1
 obtain ⟨j,e6,e7⟩:=bMp e4
 obtain ⟨d',h2,e8⟩:=bMp e6
 rw [asInt_inv e8] at h2
 obtain ⟨hc,e9⟩:=ite_inv e7
 obtain rfl:=Option.some.inj e9
 clear e2 e3 e4 e5 e6 e7 e8
 intro X hX A s env hF O oa Q E rm hw q K hQ _
 obtain ⟨ad,vs,rfl,g⟩:=own_at q ho
 refine wpAny_Assign_Subscript (B.fresh sc (vis σ) _ xs h1 hf A s env hF (Less O ad) _ E rm (q.vis ho g) K fun v s₁ nl => ?_) (swaps_no hf hnc _ _)
 obtain ⟨D,us,h₁,tk₁,rfl,hD,rfl,k,pl,rs⟩:=nl
 refine g.vi.keep k |>.name (q.keeps k).F.F (B.ex sc σ.ρ _ _ h2 A _ env hF O _ E rm (q.keeps k).F (K.keep k) fun kv s₂ p => ?_)
 obtain ⟨h₂,tk₂,rfl,k2,rk⟩:=p
 have k02:=k.trans k2
 refine rk.intE fun t => setitem_rule (s:={ s with heap:=h₂,toks:=tk₂ }) (g.pl.keepK k02) hc.2.1 (by rw [g.rs.length];exact hc.2.2.1) (by rw [g.rs.length];exact hc.2.2.2) fun h₃ pl₃ sb => ?_
 have kb : KeepBut (· = ad) h₂ h₃:=KeepBut.of_sameBut sb rfl
 have rv : Rep prog w O h₂ (.ref D) (.list xs):=.list (q.F.F.old.not hD) (pl.keepK k2) ((reps_scalar hc.1 rs).keep k2)
 exact hQ _ _ rfl O h₃ tk₂ (some ad) .next rfl ((Aft.ofKeep q hw k02).trans q (Aft.mut (s:={ s with heap:=h₂,toks:=tk₂ }) (q.keeps k02) hw ho ⟨g.o,g.new,g.ns,g.pl.keepK k02,g.rs.keep k02,g.vi.keep k02,g.nx⟩ kb pl₃ ((repAll_set (g.rs.keep k02) _ rv).keepBut (kb.mono fun b z => z ▸ g.o))))
theorem methV_inv {e : Expr} {v : MethV} (h : methV e = some v) : e = .Call (.Attribute v.o v.m v.apos) [v.a] [] v.cpos:=by
 obtain ⟨c,hc,e1⟩:=bMp h
 obtain ⟨q,ha,e2⟩:=bMp e1
 obtain ⟨a,h1,rfl⟩:=oMp e2
 rw [callV_inv hc,attrOf_inv ha,oneOf_inv h1]
set_option tactic.hygienic true in
theorem ownAct_rule {m : Str} {ds ds' : List PyData} {d : PyData} (h : ownAct m ds d = some ds') : ∃ ms id,m = Str.ofString ms ∧ Slot "list" (Str.ofString ms) id ∧ typeOf (.builtin id) = pure (.type "method_descriptor") ∧
  ∀ (A : Around) (E : Value → Shared → Prop) (O : Addr → Prop) (a : Addr) (vs : List Value) (v : Value) (s' : Shared) (Q : Value → Shared → Prop),PL s'.heap a vs → RepAll prog w O s'.heap vs ds → Rep prog w O s'.heap v d →
   (∀ h' vs',PL h' a vs' → (∀ h'',KeepBut O s'.heap h'' → RepAll prog w O h'' vs' ds') → Heap.SameBut a s'.heap h' → Q .none { s' with heap:=h' }) → wpAny (model prog w) A (call (.builtin id) [.ref a,v]) Q E s':=by
 unfold ownAct at h
 split at h
 ·rename_i hm
  obtain ⟨hlen,h⟩:=ite_inv h
  obtain rfl:=Option.some.inj h
  refine ⟨_,_,hm,PySem.F.slot_list_append,PySem.F.type_list_append,fun A E O a vs v s' Q pl rs rv hq => wpAny_list_append_plain (items:=vs.toArray) pl (fun h' pl' sb => ?_) (by unfold lim at hlen;rw [sizeLine_eq,List.size_toArray,rs.length];omega)⟩
  exact hq h' (vs ++ [v]) (by obtain ⟨m,e⟩:=pl';exact ⟨m,by rw [e];simp⟩) (fun h'' k => (rs.append (RepAll.one rv)).keepBut k) sb
 ·split at h
  ·rename_i hm
   obtain ⟨xs,hx,h⟩:=bMp h
   obtain ⟨hlen,h⟩:=ite_inv h
   obtain rfl:=Option.some.inj h
   rw [asList_inv hx]
   exact ⟨_,_,hm,PySem.F.slot_list_extend,PySem.F.type_list_extend,fun A E O a vs v s' Q pl rs rv hq => rv.listE fun b us ζ l rl => extend_rule pl l (by rw [rs.length,rl.length];exact hlen) fun h' pl' sb => hq h' (vs ++ us) pl' (fun h'' k => (rs.append rl).keepBut k) sb⟩
  ·cases h
include B in
theorem st_method {e : Expr} {pos : Pos} {z : Out × St} (h : methE r sc σ e = some z) : StAt prog w hb cl n sc ow σ (.Expr e pos) (.ok z):=by
 obtain ⟨v,hv,e1⟩:=bMp h
 obtain ⟨⟨x,ds⟩,ho,e2⟩:=bMp e1
 obtain ⟨⟨hn,hl,hs⟩,e3⟩:=ite_inv e2
 obtain ⟨ds',e4,rfl⟩:=oMp e3
 obtain ⟨d,h2,e5⟩:=bMp e4
 clear h e1 e2 e3 e4
 obtain ⟨np,e6⟩:=nameOf_inv hn
 obtain ⟨ms,id,e7,slot,ty,rule⟩:=ownAct_rule (prog:=prog) (w:=w) e5
 rw [methV_inv hv,e6,e7]
 exact .of fun X hX A s env hF O oa Q E rm hw q K hQ => ownMethod_ok B rm h2 hs hl ho hw q K slot ty (rule A E O) fun h' tk aft => hQ O h' tk oa .next rfl aft
theorem for_rule {target iter : Expr} {body orelse : List Stmt} {pos : Pos} {z : Out × St} (hX : ∀ x ∈ stS (.For target iter body orelse pos),x ∈ X) (hoff : offT ow target = true) {ds : List PyData} (Ss : SsOk prog w hb cl n r.ss) (rm : Rm false hb n A) (hw : OwIs ow σ) (q : Fs prog w hb sc hF O s.heap env σ oa) (K : Stk hb A s.heap)
  (h : forGo r sc ow target body orelse ds σ = some z) (hQ : After prog w hb sc ow X hF env O oa s Q z) {I : Addr} {J : Addr → Prop} {h' : Heap} {tk : Nat} {St : Nat → Heap → Prop} (k : Keep s.heap h') (hJ : ∀ b,J b → s.heap.get? b = none) (it : It prog w A target O h' I J ds St) (st : St 0 h') :
  codeAny (model prog w) A (.forLoop target (.ref I) body orelse env) (fun r s₁ => match r with | .ok f => Q f s₁ | .error e => E e s₁) { s with heap:=h',toks:=tk }:=by
 have ex:=it.ex _ _ st
 have nS : ∀ b,J b → ¬ Sl env b:=fun b y z => let ⟨_,ho⟩:=q.F.slot_old z;nomatch (hJ b y).symm.trans ho
 have a0 : Aft prog w hb sc ow X hF env O s.heap oa (fun a => O a ∨ J a) h' σ oa :=
  ⟨⟨q.F.addJ k hJ ex,q.own.grow k (fun ζ z => .inl z) (fun b z => z.imp id (hJ b))⟩,hw,fun ζ z => .inl z,fun b z => z.imp id (hJ b),k.but,(let ⟨_,hn⟩:=q.ns;.of_keep hn fun o e => k _ o e),fun ζ z => z,fun ζ z => .inl z,fun ζ ζ ζ z => z.keep k⟩
 exact forGo_ok Ss rm hX hoff q K it nS hJ ds σ z h _ _ oa 0 _ rfl (Nat.zero_le _) st ⟨fun ζ z => .inl z,fun ζ z => .inr z,fun a z => z.elim .inl fun y => .inr (.inl y)⟩ (KeepBut.refl _ _) a0 hQ
include B Ss in
set_option tactic.hygienic true in
theorem st_for {target iter : Expr} {body orelse : List Stmt} {pos : Pos} {z : Out × St} (h : forE r sc ow σ target iter body orelse = some z) : StAt prog w hb cl n sc ow σ (.For target iter body orelse pos) (.ok z):=by
 obtain ⟨hoff,h1⟩:=ite_inv h
 clear h
 revert h1
 split
 ·rename_i a ha
  intro e0
  obtain ⟨es,htup,e1⟩:=bMp e0
  obtain ⟨xs,e2,h⟩:=bMp e1
  obtain ⟨d,h1,e3⟩:=bMp e2
  rw [asTuple_inv e3] at h1
  clear e0 e1 e2 e3
  obtain ⟨f,np,cpos,ei,hg,hbl,hs⟩:=bltArg_inv ha
  obtain ⟨k1,p1,et⟩:=tupOf_inv htup
  clear ha htup
  subst ei et
  have hl:=evList_one hs h1
  refine .of fun X hX A s env hF O oa Q E rm hw q K hQ => wpAny_For (wpAny_Call_Name_kw (nameB_ok B.G q.F hg hbl (callWith_blt (any_false hl) (evArgs_ok B.ex rm hl q.F K fun us h' tk k rs => rs.oneE fun u r1 => r1.tupleE fun t vs nt l rl => ?_)))) (fun ζ => rfl)
  refine call_enum (s:={ s with heap:=h',toks:=tk }) l fun h₁ e it st he hi k1 => ?_
  obtain ⟨old,hen⟩:=st.en
  exact wpAny_pyIter_enum (s:={ s with heap:=h₁,toks:=tk }) hen (for_rule hX hoff Ss rm hw q K h hQ (k.trans k1) (fun b z => z.elim (fun z => z ▸ k.none he) fun z => z ▸ k.none hi) (enum_it (rm.hand rfl) (rl.keep k1) nt st) st)
 ·intro h
  obtain ⟨ds,h1,h⟩:=bMp h
  exact .of fun X hX A s env hF O oa Q E rm hw q K hQ => wpAny_For (iterE_ok B.G (show ExOk prog w hb r.still n r.ex from B.still.symm ▸ B.ex) (show Rm r.still hb n A from B.still.symm ▸ rm) h1 q.F K fun I h' tk St k hI it st => for_rule hX hoff Ss rm hw q K h hQ (J:=(· = I)) k (fun b z => z ▸ hI) (it target) st) (folded_ok (iterE_set h1))
include B in
theorem st_ret {e : Expr} {pos : Pos} {z : Out × St} (h : retE r sc σ e = some z) : StAt prog w hb cl n sc ow σ (.Return (some e) pos) (.ok z):=by
 rcases orD_inv h with h | h
 ·obtain ⟨⟨x,ds⟩,ho,e1⟩:=bMp h
  obtain ⟨hn,e2⟩:=ite_inv e1
  clear h e1
  obtain rfl:=Option.some.inj e2
  obtain ⟨p,rfl⟩:=nameOf_inv hn
  refine .of fun X hX A s env hF O oa Q E rm hw q K hQ => ?_
  obtain ⟨ad,vs,rfl,g⟩:=own_at q ho
  exact wpAny_Return_some (g.vi.name q.F.F (hQ O s.heap s.toks (some ad) _ ⟨_,rfl,fun O₀ old sub => .list (fun z => (let ⟨_,e⟩:=old _ z;nomatch g.new.symm.trans e)) g.pl (g.rs.less sub)⟩ (Aft.ofKeep q hw (Keep.refl _))))
 ·obtain ⟨d,h1,rfl⟩:=oMp h
  refine .of fun X hX A s env hF O oa Q E rm hw q K hQ => wpAny_Return_some (exO_ok B.ex rm h1 q K fun v s₁ p => ?_)
  obtain ⟨h₁,tk₁,rfl,k1,rv⟩:=p
  exact hQ O h₁ tk₁ oa _ ⟨v,rfl,fun ζ ζ sub => rv.less sub⟩ (Aft.ofKeep q hw k1)
include B Ss in
theorem st_if {c : Expr} {a b : List Stmt} {pos : Pos} {res : Except Ex (Out × St)} (h : stmtE T r sc ow σ (.If c a b pos) = some res) : StAt prog w hb cl n sc ow σ (.If c a b pos) res:=by
 obtain ⟨t,h1,h⟩:=Rs.up_bind h
 intro X hX A s env hF O oa Q E rm hw q K hQ hE
 refine wpAny_If (trO_ok B.tr rm h1 q K fun s₁ p => ?_)
 obtain ⟨h₁,tk₁,rfl,k1⟩:=p
 have a1:=Aft.ofKeep (X:=X) q hw k1
 have fin : ∀ l,(∀ x ∈ stL l,x ∈ X) → r.ss sc ow σ l = some res → wpAny (model prog w) A (execs l env) Q E { s with heap:=h₁,toks:=tk₁ }:=fun l hl' hl =>
  Ss sc ow σ l res hl X (hl') A _ env hF O oa Q E rm hw (q.keeps k1) (K.keep k1) (fun out σ' e O' h' tk oa' fl hfl aft => hQ out σ' e O' h' tk oa' fl hfl (a1.trans q aft))
   (fun x e ea O' h₁ h' tk C σ' oa' hC aft m => hE x e ea O' h₁ h' tk C σ' oa' hC (a1.trans q aft) m)
 cases t with
 | true => exact fin a (fun x hx => hX x (List.mem_append_left _ hx)) h
 | false => exact fin b (fun x hx => hX x (List.mem_append_right _ hx)) h
include B XE in
theorem st_raise {e : Expr} {pos : Pos} {x : Ex} (h : raiseE T r sc σ e = some x) : StAt prog w hb cl n sc ow σ (.Raise (some e) none pos) (.error x):=by
 obtain ⟨⟨c,as⟩,hc,e3⟩:=bMp h
 obtain ⟨a,ha,e4⟩:=bMp e3
 obtain ⟨⟨hg,hT,hs⟩,e5⟩:=ite_inv e4
 obtain ⟨y,e6,rfl⟩:=oMp e5
 obtain ⟨d,h1,e7⟩:=bMp e6
 rw [asStr_inv e7] at h1
 clear h e3 e4 e5 e6 e7
 obtain ⟨np,cpos,rfl⟩:=callOf_inv hc
 rw [oneOf_inv ha]
 obtain ⟨C,hC,hX⟩:=XE c hT
 exact fun X ζ A s env hF O oa Q E rm hw q K hQ hE => raise_ok B rm hX hg hs h1 q.F K fun ea h₁ h' tk k m => hE _ rfl ea O h₁ h' tk _ σ oa hC (Aft.ofKeep q hw k) m
include B XE Ss in
set_option tactic.hygienic true in
theorem stmtE_ok : StOk prog w hb cl n (stmtE T r):=by
 intro sc ow σ st res h
 show StAt prog w hb cl n sc ow σ st res
 cases st with
 | Assign ts e pos =>
  obtain ⟨z,e1,rfl⟩:=Rs.up_inv h
  obtain ⟨t,ht,h⟩:=bMp e1
  rw [oneOf_inv ht]
  clear e1 ht
  revert h
  split
  ·rename_i x hx
   obtain ⟨p,rfl⟩:=nameOf_inv hx
   exact st_assign B
  ·split
   ·rename_i p hp
    obtain ⟨p',rfl⟩:=subOf_inv hp
    exact st_sub B
   ·exact st_tuple B
 | Expr e pos => obtain ⟨z,h1,rfl⟩:=Rs.up_inv h;exact st_method B h1
 | If c a b pos => exact st_if B Ss h
 | For target iter body orelse pos => obtain ⟨z,h1,rfl⟩:=Rs.up_inv h;exact st_for B Ss h1
 | While test body orelse pos =>
  obtain ⟨z,h1,rfl⟩:=Rs.up_inv h
  obtain ⟨h0,h2⟩:=ite_inv h1
  rw [List.isEmpty_iff.mp h0]
  exact .of fun X hX A s env hF O oa Q E rm hw q K hQ => wpAny_While (whileGo_ok B Ss rm (fun x hx => hX x (List.mem_append_left _ hx)) q K 4096 σ z h2 s O oa _ (Aft.ofKeep q hw (Keep.refl _)) hQ)
 | Return e pos =>
  obtain ⟨z,h1,rfl⟩:=Rs.up_inv h
  obtain ⟨e,rfl,h2⟩:=bMp h1
  exact st_ret B h2
 | Break pos => obtain rfl:=Option.some.inj h;exact .of fun X hX A s env hF O oa Q E rm hw q K hQ => wpAny_Break (hQ O s.heap s.toks oa .brk rfl (Aft.ofKeep q hw (Keep.refl _)))
 | Raise e c pos =>
  cases c with
  | some _ => exact nomatch h
  | none =>
   obtain ⟨x,e1,rfl⟩:=oMp h
   obtain ⟨e,rfl,e2⟩:=bMp e1
   exact st_raise B XE e2
 | _ => exact nomatch h
end
end
section
variable [bs : Base]
noncomputable def mask (h : Heap) : List Addr → Heap
 | [] => h
 | a :: l => (mask h l).update a fun o => { o with data:=.freed }
theorem mask_other {h : Heap} : ∀ {l : List Addr} {b : Addr},b ∉ l → (mask h l).get? b = h.get? b
 | [],_,_ => rfl
 | a :: l,b,hb => by
  have h1 : a ≠ b:=fun q => hb (q ▸ List.mem_cons_self)
  show ((mask h l).update a _).get? b = _
  rw [Heap.get?_update_other _ _ h1]
  exact mask_other fun q => hb (List.mem_cons_of_mem _ q)
theorem freed_none (h : Heap) (a : Addr) : (h.update a fun o => { o with data:=.freed }).get? a = none:=by
 obtain ⟨objs,l⟩:=h
 simp only [Heap.update,Heap.get?,Array.getElem?_modify,if_true]
 cases objs[a]? with
 | none => rfl
 | some o => rfl
theorem mask_in {h : Heap} : ∀ {l : List Addr} {b : Addr},b ∈ l → (mask h l).get? b = none
 | a :: l,b,hb => by
  show ((mask h l).update a _).get? b = _
  by_cases q : a = b
  ·subst q;exact freed_none _ _
  ·rw [Heap.get?_update_other _ _ q]
   rcases cMp hb with z | z
   ·exact absurd z.symm q
   ·exact mask_in z
theorem mask_some {h : Heap} {l : List Addr} {b : Addr} {o : Obj} (e : (mask h l).get? b = some o) : h.get? b = some o ∧ b ∉ l:=by
 by_cases q : b ∈ l
 ·rw [mask_in q] at e;cases e
 ·rw [mask_other q] at e;exact ⟨e,q⟩
theorem codeRec_keepK {h h' : Heap} {cd : Value} {q : Str} (x : h.CodeRec cd q) (k : Keep h h') : h'.CodeRec cd q:=by
 obtain ⟨c,o,vs,t,e,ho,hd,hv⟩:=x
 obtain ⟨o',ho',al⟩:=k c o ho
 exact ⟨c,o',vs,t,e,ho',al.data.trans hd,hv⟩
theorem noLimit_keepK {h h' : Heap} (x : h.NoLimit) (k : Keep h h') : h'.NoLimit:=let ⟨mc,a,b⟩:=x;⟨mc,ns_keep a k,b⟩
structure Fly2 (h₀ h : Heap) (e : Addr) (C : Value) (x : Str) (fl : Value) : Prop where
 keep : Keep h₀ h
 new : h₀.get? e = none
 rest : ∃ t tk,h.TracedAtW h₀ e C (.ref t) fl ∧ h₀.get? t = none ∧ PT h t [.str x tk]
theorem Fly2.of_fly {h₀ h : Heap} {e : Addr} {C : Value} {x : Str} (k : Keep h₀ h) (f : Fly h₀ h e C x) : Fly2 h₀ h e C x .none :=
 let ⟨t,tk,a,b,c,d⟩:=f;⟨k,b,t,tk,a,c,d⟩
noncomputable def Lone (h : Heap) (e : Addr) : Prop:=∃ oe vs,h.get? e = some oe ∧ oe.data = .fields vs ∧ vs[2]? = some .none
theorem Lone.same {h h' : Heap} {e : Addr} (x : Lone h e) (k : h'.get? e = h.get? e) : Lone h' e:=let ⟨oe,vs,h1,h2⟩:=x;⟨oe,vs,k.trans h1,h2⟩
section
variable {prog : Program} {w : World} {hb : Heap} {A : Around} {env : Env} {s : Shared} {E : Value → Shared → Prop} {M : Model}
theorem stk_frames {base h : Heap} {l : List Env} (hl : ∀ env ∈ l,env.scope.kind ≠ .module ∧ ∃ L o es ep,env.frame = some L ∧ hb.get? L = none ∧ h.get? L = some o ∧ o.cls = .type "frame" ∧ o.data = .dict es ep)
  (hn : ∀ env ∈ l,∀ L,env.frame = some L → base.get? L = none) : h.FunFrames base l:=by
 induction l with
 | nil => trivial
 | cons env l ih =>
  obtain ⟨h1,L,o,es,ep,h2,_,h4,_,h6⟩:=hl env List.mem_cons_self
  exact ⟨h1,⟨L,o,h2,hn env List.mem_cons_self L h2,h4,fun vs q => by rw [h6] at q;cases q⟩,ih (fun e he => hl e (List.mem_cons_of_mem _ he)) fun e he => hn e (List.mem_cons_of_mem _ he)⟩
theorem stk_new {h : Heap} {l : List Env} (hl : ∀ env ∈ l,env.scope.kind ≠ .module ∧ ∃ L o es ep,env.frame = some L ∧ hb.get? L = none ∧ h.get? L = some o ∧ o.cls = .type "frame" ∧ o.data = .dict es ep) (lk : ∀ a,hb.get? a = none → Base.h.get? a = none) :
  ∀ b ∈ l.filterMap (·.frame),Base.h.get? b = none:=fun b hb' => by
 obtain ⟨en,hen,hfe⟩:=List.mem_filterMap.mp hb'
 obtain ⟨_,L',_,_,_,h2,h3,_⟩:=hl en hen
 rw [hfe] at h2;obtain rfl:=Option.some.inj h2
 exact lk _ h3
theorem note_core {h₀ : Heap} {l : List Env} {L e t : Addr} {oe : Obj} {vs : Array Value} {head C : Value} {x : Str} {tk : Tok} {hadNext : Bool} (hfr : A.frames = some (env :: l)) (hf : env.frame = some L) (K : Stk hb A s.heap) (kp : Keep h₀ s.heap) (hen : h₀.get? e = none)
  (he : s.heap.get? e = some oe) (hd : oe.data = .fields vs) (hsz : 1 < vs.size) (hc : oe.cls = C) (h0 : vs[0]? = some (.ref t)) (htn : h₀.get? t = none) (pt : PT s.heap t [.str x tk]) {Q : Unit → Shared → Prop}
  (hQ : ∀ h',Fly2 h₀ h' e C x (rawInt L) → Stk hb A h' → (vs[2]? = some .none → Lone h' e) → Q () { s with heap:=h' }) :
  wpAny M A (do let a ← frameOf env;let pl ← entryPlaceOf L hadNext;let b ← EntryCells.newEntry head a .none (rawInt L) .none pl;setField (.ref e) 1 b) Q E s:=by
 obtain ⟨l',hl',hall,lk⟩:=id K
 rw [hfr] at hl';obtain rfl:=Option.some.inj hl'
 refine wpAny_bind (wpAny_frameOf_fun hfr (stk_frames (base:=hb) hall fun en hm L' hL' => by
  obtain ⟨_,_,_,_,_,h2,h3,_⟩:=hall en hm
  rw [hL'] at h2;obtain rfl:=Option.some.inj h2;exact h3) hf fun h₁ sl => wpAny_bind (wpAny_entryPlaceOf fun pl hpl => ?_))
 have k1 : Keep s.heap h₁:=fun b o eb => by
  obtain ⟨sl',hs⟩:=sl.2.2 b o eb
  by_cases q : b ∈ (env :: l).filterMap (·.frame)
  ·obtain ⟨en,hm,hfe⟩:=List.mem_filterMap.mp q
   obtain ⟨_,_,o',_,_,h2,_,h4,h5,_⟩:=hall en hm
   rw [hfe] at h2;obtain rfl:=Option.some.inj h2
   cases eb.symm.trans h4
   exact ⟨_,hs,.inr ⟨stk_new hall lk b q,h5,h5,rfl,rfl⟩⟩
  ·exact ⟨o,(sl.2.1 b q).trans eb,.refl _⟩
 have e1 : h₁.get? e = some oe:=by
  obtain ⟨o',e',al⟩:=k1 e oe he
  by_cases q : oe.cls = .type "frame"
  ·have : e ∉ (env :: l).filterMap (·.frame):=fun z => by
    obtain ⟨en,hm,hfe⟩:=List.mem_filterMap.mp z
    obtain ⟨_,_,o',_,_,h2,_,h4,_,h6⟩:=hall en hm
    rw [hfe] at h2;obtain rfl:=Option.some.inj h2
    cases he.symm.trans h4
    cases hd.symm.trans h6
   exact (sl.2.1 e this).trans he
  ·exact (al.same q) ▸ e'
 refine wpAny_bind (wpAny_newObj_type ?_ (hpl.sizeOk5 _ _ _ _ _))
 have n1 : h₁.objs.size ≠ e:=Nat.ne_of_gt (Heap.lt_size e1)
 generalize hT : ([head,.ref L,.none,rawInt L,.none] ++ (if pl.isEmpty then List.replicate 6 Value.none else pl)).toArray = ts
 have t3 : ts[3]? = some (rawInt L):=by rw [← hT];rfl
 have k2:=Keep.push h₁ { cls:=.type "traceback",dict:=none,data:=.fields ts }
 have top:=Heap.get?_push_size h₁ (o:={ cls:=.type "traceback",dict:=none,data:=.fields ts }) rfl
 have e2 : (h₁.push { cls:=.type "traceback",dict:=none,data:=.fields ts }).get? e = some oe:=Heap.get?_push_of_some _ e1
 have fresh : s.heap.get? h₁.objs.size = none:=k1.none (fresh_size _)
 generalize h₁.push { cls:=.type "traceback",dict:=none,data:=.fields ts } = h₂ at k2 top e2
 generalize h₁.objs.size = T at n1 top fresh
 have k12:=k1.trans k2
 refine wpAny_setField e2 hd hsz ?_
 have d3:=Obj.data_mapFields hd (·.setIfInBounds 1 (Value.ref T))
 have e3:=Heap.get?_update_self (Obj.mapFields (·.setIfInBounds 1 (Value.ref T))) e2 (Obj.isFreed_of_fields d3)
 have oth : ∀ b,b ≠ e → (h₂.update e (Obj.mapFields (·.setIfInBounds 1 (Value.ref T)))).get? b = h₂.get? b:=fun b q => Heap.get?_update_other _ _ (Ne.symm q)
 have c3:=Obj.cls_mapFields oe (·.setIfInBounds 1 (Value.ref T))
 generalize h₂.update e (Obj.mapFields (·.setIfInBounds 1 (Value.ref T))) = h₃ at e3 oth
 have k13 : KeepBut (· = e) s.heap h₃:=fun b o nb eb => let ⟨o',e',al⟩:=k12 b o eb;⟨o',(oth b nb).trans e',al⟩
 have i' : ∀ i,1 ≠ i → (vs.setIfInBounds 1 (Value.ref T))[i]? = vs[i]?:=fun i q => Array.getElem?_setIfInBounds_ne q
 have hv : (vs.setIfInBounds 1 (Value.ref T))[1]? = some (.ref T):=by simp [hsz]
 refine hQ h₃ ⟨fun b o eb => ?_,hen,t,tk,⟨_,_,T,_,ts,e3,⟨c3.trans hc,(i' 0 (by decide)).trans h0⟩,d3,hv,kp.none fresh,n1,(oth T n1).trans top,rfl,t3⟩,htn,pt.off k13 fun q => ?_⟩ (K.chg k13 fun b q o es ep ho ζ hdd => ?_) fun h2 => ⟨_,_,e3,d3,(i' 2 (by decide)).trans h2⟩
 ·obtain ⟨o',e',al⟩:=kp b o eb
  obtain ⟨o'',e'',al'⟩:=k13 b o' (fun q => by rw [q,hen] at eb;cases eb) e'
  exact ⟨o'',e'',al.trans al'⟩
 ·obtain ⟨_,e'⟩:=pt
  rw [q,he] at e';cases e';cases hd
 ·rw [q,he] at ho;obtain rfl:=Option.some.inj ho;cases hd.symm.trans hdd
theorem note_first {h₁ : Heap} {l : List Env} {L e : Addr} {C : Value} {x : Str} (hfr : A.frames = some (env :: l)) (hf : env.frame = some L) (K : Stk hb A h₁) (m : Made' h₁ s.heap e C x) {Q : Unit → Shared → Prop}
  (hQ : ∀ h',Fly2 h₁ h' e C x (rawInt L) → Lone h' e → Q () { s with heap:=h' }) : wpAny M A (noteFrame (.ref e) env) Q E s:=by
 obtain ⟨tk,mk⟩:=m
 obtain ⟨t,he,htn,ht⟩:=mk.there
 unfold noteFrame
 simp only [hf]
 refine wpAny_bind (wpAny_field he rfl (x:=.none) rfl ?_)
 rw [if_neg (by decide)]
 exact note_core hfr hf (K.keep (.of mk.keeps)) (.of mk.keeps) mk.new he rfl (by simp) rfl rfl htn ⟨0,ht⟩ fun h' f ζ ln => hQ h' f (ln rfl)
theorem flight_ok {h₀ : Heap} {e : Addr} {C : Value} {x : Str} {fl : Value} {fr : Option Addr} (f : Fly2 h₀ s.heap e C x fl) {Q : Unit → Shared → Prop}
  (hQ : ∀ h',Fly2 h₀ h' e C x (fr.elim .none fun f => rawInt f) → (∀ K : Around,Stk hb K s.heap → Stk hb K h') → (Lone s.heap e → Lone h' e) → Q () { s with heap:=h' }) : wpAny M A (setFlight (.ref e) fr) Q E s:=by
 obtain ⟨kp,hen,t,tk,tr,htn,pt⟩:=f
 obtain ⟨oe,vs,T,oT,ts,g1,g2,g3,g4,g5,g6,g7,g8,g9⟩:=tr
 have hsz : 3 < ts.size:=(Array.getElem?_eq_some_iff.mp g9).1
 unfold setFlight
 refine wpAny_bind (wpAny_field g1 g3 g4 ?_)
 rw [if_pos (show (Value.ref T != Value.none) = true from by simp)]
 refine wpAny_setField g7 g8 hsz ?_
 have other : ∀ b,b ≠ T → (s.heap.update T (Obj.mapFields (·.setIfInBounds 3 (fr.elim Value.none fun f => rawInt f)))).get? b = s.heap.get? b:=fun b hbT => Heap.get?_update_other _ _ (Ne.symm hbT)
 have hT':=Heap.get?_update_self (Obj.mapFields (·.setIfInBounds 3 (fr.elim Value.none fun f => rawInt f))) g7 (Obj.isFreed_of_fields (Obj.data_mapFields g8 _))
 refine hQ _ ⟨fun b o eb => ?_,hen,t,tk,⟨oe,vs,T,_,_,(other e (Ne.symm g6)).trans g1,g2,g3,g4,g5,g6,hT',Obj.data_mapFields g8 _,by simp [hsz]⟩,htn,?_⟩ (fun K hK => ?_) fun x => x.same (other e (Ne.symm g6))
 ·obtain ⟨o₁,e₁,a₁⟩:=kp b o eb
  exact ⟨o₁,(other b fun q => by subst q;rw [g5] at eb;cases eb).trans e₁,a₁⟩
 ·obtain ⟨n0,hpt⟩:=pt
  exact ⟨n0,(other t fun q => by subst q;rw [g7] at hpt;cases hpt;cases g8).trans hpt⟩
 ·obtain ⟨l,hl,hall,lk⟩:=hK
  refine ⟨l,hl,fun en hm => ?_,lk⟩
  obtain ⟨q1,L',o,es,ep,q2,q3,q4,q5,q6⟩:=hall en hm
  exact ⟨q1,L',o,es,ep,q2,q3,(other L' fun q => by subst q;rw [g7] at q4;cases q4;rw [g8] at q6;cases q6).trans q4,q5,q6⟩
theorem leave_ok {h₁ : Heap} {l : List Env} {L e : Addr} {C : Value} {x : Str} (hfr : A.frames = some (env :: l)) (hf : env.frame = some L) (K : Stk hb A h₁) (m : Made' h₁ s.heap e C x) {Q : Unit → Shared → Prop}
  (hQ : ∀ h',Keep h₁ h' → Fly h₁ h' e C x → Q () { s with heap:=h' }) : wpAny M A (leaving env (.ref e)) Q E s:=by
 unfold leaving
 refine wpAny_bind (note_first hfr hf K m fun h' f ζ => flight_ok (hb:=hb) (fr:=none) f fun h'' g ζ ζ => hQ h'' g.keep ?_)
 obtain ⟨_,hn,t,tk,a,b,c⟩:=g
 exact ⟨t,tk,a,hn,b,c⟩
end
end
section
variable [bs : Base]
section
variable {prog : Program} {w : World}
theorem bind_ok {M : Model} {A : Around} {E : Value → Shared → Prop} {sc : Names} {hF : Heap} {O : Addr → Prop} {env : Env} (f : Str × Value → PUnit → Sem (ForInStep PUnit)) (hf : ∀ n v u,f (n,v) u = (do storeName env n v;pure (.yield ⟨⟩))) :
  ∀ (ps : List Str) (vs : List Value) (s : Shared) (Q : PUnit → Shared → Prop),ps.Nodup → (∀ p ∈ ps,sc.lookup p = some .local ∨ sc.lookup p = some .cell) → FrI prog w sc hF O s.heap env [] →
  (∀ h' tk,FrI prog w sc hF O h' env [] → KeepBut (OwnS hF O env) s.heap h' → Kept env sc ps s.heap h' → (∀ x v,(x,v) ∈ ps.zip vs → VarIs h' env sc x v) → Q ⟨⟩ { s with heap:=h',toks:=tk }) → wpAny M A (forIn (ps.zip vs) ⟨⟩ f) Q E s:=by
 have keptNil : ∀ {h : Heap} {X : List Str},FrI prog w sc hF O h env [] → Kept env sc X h h:=fun F => (let ⟨m,hn,_⟩:=F.ns;(Kept.of_keep hn (Keep.refl _)).mono fun y hy => nomatch hy)
 intro ps
 induction ps with
 | nil => intro vs s Q _ _ F h;rw [List.zip_nil_left,List.forIn_nil];exact wpAny_pure (h s.heap s.toks F (KeepBut.refl _ _) (keptNil F) fun ζ ζ z => nomatch z)
 | cons p ps ih =>
  intro vs s Q nd hk F h
  cases vs with
  | nil => rw [List.zip_nil_right,List.forIn_nil];exact wpAny_pure (h s.heap s.toks F (KeepBut.refl _ _) (keptNil F) fun ζ ζ z => nomatch z)
  | cons v vs =>
   obtain ⟨n1,n2⟩:=List.nodup_cons.mp nd
   rw [List.zip_cons_cons,List.forIn_cons,hf]
   refine wpAny_bind (wpAny_bind (F.storeV (hk p List.mem_cons_self) rfl fun h₁ tk₁ F₁ k₁ kp₁ vi₁ => wpAny_pure ?_))
   refine ih vs _ Q n2 (fun q hq => hk q (List.mem_cons_of_mem _ hq)) F₁ fun h₂ tk₂ F₂ k₂ kp₂ vi₂ => ?_
   refine h h₂ tk₂ F₂ (k₁.trans k₂) ((kp₁.trans kp₂).mono fun y hy => by simpa using hy) fun x u hm => ?_
   rcases cMp hm with e | hm
   ·cases e;exact kp₂.vk p v n1 vi₁
   ·exact vi₂ x u hm
structure Ent (prog : Program) (w : World) (hb : Heap) (sc : Names) (O : Addr → Prop) (h₀ : Heap) (O₁ : Addr → Prop) (h : Heap) (env : Env) (ρ : Vars) (bs : List (Str × Value)) : Prop where
 F : Fx prog w hb sc h₀ O₁ h env ρ
 sub : ∀ a,O a → O₁ a
 new : ∀ a,O₁ a → O a ∨ h₀.get? a = none
 vars : ∀ x v,(x,v) ∈ bs → VarIs h env sc x v
 frame : env.frame = some env.locals
 rcd : ∃ o es ep,h.get? env.locals = some o ∧ o.cls = .type "frame" ∧ o.data = .dict es ep
theorem Ent.keep {hb h₀ h : Heap} {sc : Names} {O O₁ : Addr → Prop} {env : Env} {ρ : Vars} {bs : List (Str × Value)} (x : Ent prog w hb sc O h₀ O₁ h env ρ bs) : Keep h₀ h:=x.F.F.keep
theorem Ent.stk {hb h₀ h : Heap} {sc : Names} {O O₁ : Addr → Prop} {env : Env} {ρ : Vars} {bs : List (Str × Value)} {A : Around} (x : Ent prog w hb sc O h₀ O₁ h env ρ bs) (K : Stk hb A h₀) : Stk hb (A.deeper env) h:=by
 obtain ⟨o,es,ep,ho,hc,hd⟩:=x.rcd
 obtain ⟨l,e,f,lk⟩:=K.keep x.keep
 refine ⟨env :: l,by show A.frames.map _ = _;rw [e];rfl,fun en hen => ?_,lk⟩
 rcases cMp hen with rfl | hen
 ·exact ⟨by rw [x.F.F.kind];decide,_,o,es,ep,x.frame,x.F.kb.none x.F.F.oloc.2,ho,hc,hd⟩
 ·exact f en hen
variable {hb : Heap} {A : Around} {s : Shared} {O : Addr → Prop}
theorem fnEnv_rule {M : Model} {E : Value → Shared → Prop} {scope : Scope} {F : Fn} {qual : Str} {func : Option Addr} {code : Value} {vs : List Value} {ρ : Vars} {Q : Env → Shared → Prop}
  (hn : scope.names = F.names) (hk : scope.kind = .function) (params : ∀ x ∈ F.params,F.names.lookup x = some .local ∨ F.names.lookup x = some .cell)
  (nd : F.params.Nodup) (nofree : ∀ x,F.names.lookup x ≠ some .free) (n1 : F.names.lookup (Str.ofString "__classdict__") = none) (n2 : F.names.lookup (Str.ofString "__debug__") = none)
  (kb : Keep hb s.heap) (old : Old O s.heap) (onew : ∀ a,O a → hb.get? a = none) (hρ : ∀ x d,ρ.lookup x = some d → ∃ v,(x,v) ∈ F.params.zip vs ∧ Rep prog w O s.heap v d)
  (h : ∀ env (O₁ : Addr → Prop) h' tk,Ent prog w hb F.names O s.heap O₁ h' env ρ (F.params.zip vs) → env.code = code → Q env { s with heap:=h',toks:=tk }) :
  wpAny M A (newFunctionEnv scope mainGlobals [] (F.params.zip vs) qual func code none builtinsNs) Q E s:=by
 simp only [newFunctionEnv,Option.isSome_none,Bool.false_eq_true,if_false]
 refine wpAny_bind (wpAny_alloc ?_)
 refine wpAny_bind (wpAny_layCells _ (fun name kind cells => by cases hkc : kind == NameKind.cell <;> simp [hkc]) _ _ _ _ ?_)
 have ok:=cellsFrom_ok scope.names (s.heap.push { cls:=.type "frame",data:=.dict #[] }) (s.heap.objs.size + 1) [] ⟨fun ζ ζ hm => (nomatch hm),List.Pairwise.nil⟩ (by rw [Heap.size_push];exact Nat.le_refl _)
 rw [Heap.size_push] at ok
 rw [show ({ s with heap:=s.heap.push { cls:=.type "frame",data:=.dict #[] } } : Shared).heap.objs.size = s.heap.objs.size + 1 from Heap.size_push ..]
 have hcell : ∀ x,F.names.lookup x = some .cell → ((cellsFrom (s.heap.objs.size + 1) scope.names []).lookup x).isSome = true:=fun x hx => by
  rw [hn];exact cellsFrom_has F.names _ [] x (.inl (mem_of_lookup hx))
 generalize hcs : cellsFrom (s.heap.objs.size + 1) scope.names [] = cs at ok hcell ⊢
 have hL : (pushCells (s.heap.push { cls:=.type "frame",data:=.dict #[] }) scope.names).get? s.heap.objs.size = some { cls:=.type "frame",data:=.dict #[] }:=pushCells_keeps _ _ _ _ (Heap.get?_push_size _ rfl)
 have kp : Keep s.heap (pushCells (s.heap.push { cls:=.type "frame",data:=.dict #[] }) scope.names):=.of fun b o e => pushCells_keeps _ _ b o (Heap.get?_push_of_some _ e)
 generalize hhp : pushCells (s.heap.push { cls:=.type "frame",data:=.dict #[] }) scope.names = hp at ok kp hL ⊢
 have hLn : hp.Ns s.heap.objs.size fun ζ => none:=⟨_,#[],0,hL,rfl,fun ζ he => by simp at he,fun ζ => rfl⟩
 generalize henv : ({ scope,locals:=s.heap.objs.size,globals:=mainGlobals,cells:=cs,qual,func,code,frame:=some s.heap.objs.size,builtins:=builtinsNs } : Env) = env
 have eC : env.cells = cs:=by rw [← henv]
 have eL : env.locals = s.heap.objs.size:=by rw [← henv]
 have eF : env.frame = some s.heap.objs.size:=by rw [← henv]
 have eK : ∀ y,env.kindOf y = F.names.lookup y:=fun y => by rw [← henv,← hn];rfl
 have sizeN : s.heap.get? s.heap.objs.size = none:=fresh_size _
 have cAt : ∀ {y c},env.cells.lookup y = some c → hp.IsCell c none ∧ s.heap.get? c = none ∧ c ≠ env.locals:=fun {y c} e => by
  rw [eC] at e
  obtain ⟨h1,h2⟩:=ok.empty y c (mem_of_lookup e)
  refine ⟨h1,?_,by rw [eL];exact Nat.ne_of_gt h2⟩
  cases q : s.heap.get? c with
  | none => rfl
  | some o => exact absurd (Heap.lt_size q) (Nat.not_lt.mpr (Nat.le_of_succ_le h2))
 let O₁ : Addr → Prop:=fun b => O b ∨ b = env.locals ∨ ∃ y,env.cells.lookup y = some b
 have new : ∀ b,O₁ b → O b ∨ s.heap.get? b = none:=by
  rintro b (z | rfl | ⟨y,z⟩)
  ·exact .inl z
  ·exact .inr (eL ▸ sizeN)
  ·exact .inr (cAt z).2.1
 have F₀ : FrI prog w F.names s.heap O₁ hp env []:={
  kind:=by rw [← henv];exact hk
  glob:=by rw [← henv]
  blt:=by rw [← henv]
  loc:=fun y e => (eK y).trans e
  cel:=fun y e => by
   obtain ⟨c,hc⟩:=Option.isSome_iff_exists.mp (hcell y e)
   rw [← eC] at hc
   exact ⟨(eK y).trans e,c,hc,(cAt hc).2.1⟩
  fre:=fun y e => absurd e (nofree y)
  glo:=fun y e => (eK y).trans e
  ns:=⟨_,eL ▸ hLn,fun y d e => by simp at e⟩
  cell:=fun y e => by
   rcases e with e | e
   ·obtain ⟨c,hc⟩:=Option.isSome_iff_exists.mp (hcell y e)
    rw [← eC] at hc
    exact ⟨c,none,hc,(cAt hc).1,fun d ed => by simp at ed⟩
   ·exact absurd e (nofree y)
  allc:=fun y c e => ⟨_,(cAt e).1⟩
  oloc:=⟨.inr (.inl rfl),eL ▸ sizeN⟩
  ocell:=fun y c e => ⟨.inr (.inr ⟨y,e⟩),(cAt e).2.2⟩
  inj:=fun y z c e1 e2 => by rw [eC] at e1 e2;exact name_of_addr ok.apart (mem_of_lookup e1) (mem_of_lookup e2)
  keep:=kp
  old:=by
   rintro b (z | rfl | ⟨y,z⟩)
   ·exact old.keep kp b z
   ·exact ⟨_,eL ▸ hL⟩
   ·obtain ⟨o,ho,_⟩:=(cAt z).1;exact ⟨o,ho⟩
  ncd:=n1
  ndb:=n2 }
 refine wpAny_bind (bind_ok (prog:=prog) (w:=w) (O:=O₁) (hF:=s.heap) _ (fun ζ ζ ζ => rfl) F.params vs _ _ nd params F₀ fun h' tk F' k kp' vi => wpAny_pure (h env O₁ h' tk ⟨⟨?_,kb,?_⟩,fun b z => .inl z,new,vi,by rw [eF,eL],?_⟩ (by rw [← henv])))
 ·have rep : ∀ v d,Rep prog w O s.heap v d → Rep prog w O₁ h' v d:=fun v d r => ((r.more new).keep kp).keepBut k.of_ownS.of_own
  refine { F' with ns:=?_,cell:=fun y e => ?_ }
  ·obtain ⟨m,hm,_⟩:=F'.ns
   refine ⟨m,hm,fun y d e1 e2 => ?_⟩
   obtain ⟨v,hv,rv⟩:=hρ y d e1
   rcases vi y v hv with ⟨_,m',hm',e⟩ | ⟨e,_⟩
   ·exact ⟨v,(hm.agree hm' y).trans e,rep v d rv⟩
   ·rw [e2] at e;cases e
  ·obtain ⟨c,ov,f1,f2,_⟩:=F'.cell y e
   refine ⟨c,ov,f1,f2,fun d ed => ?_⟩
   obtain ⟨v,hv,rv⟩:=hρ y d ed
   rcases vi y v hv with ⟨e',_⟩ | ⟨_,c',hc',o',ho',hd'⟩
   ·rcases e with e | e <;> (rw [e] at e';cases e')
   ·rw [f1] at hc';obtain rfl:=Option.some.inj hc'
    obtain ⟨o₂,ho₂,hd₂⟩:=f2
    rw [ho'] at ho₂;obtain rfl:=Option.some.inj ho₂
    rw [hd'] at hd₂;cases hd₂
    exact ⟨v,rfl,rep v d rv⟩
 ·intro b z
  rcases new b z with q | q
  ·exact onew b q
  ·exact kb.none q
 ·obtain ⟨o',es,ep,e',c',d'⟩:=kp'.lc _ (eL ▸ hL)
  exact ⟨o',es,ep,e',c',d'⟩
theorem fn_ruleC {mg : Str → Option Value} {R : Result → Shared → Prop} {f : Str} {F : Fn} {vs : List Value} {ρ : Vars} {n : Nat} (FA : FnAt hb mg f F) (lim : hb.NoLimit) (rm : Rm false hb (n + 1) A) (kb : Keep hb s.heap) (old : Old O s.heap) (onew : ∀ a,O a → hb.get? a = none)
  (hlen : vs.length = F.params.length) (hρ : ∀ x d,ρ.lookup x = some d → ∃ v,(x,v) ∈ F.params.zip vs ∧ Rep prog w O s.heap v d)
  (h : ∀ env (O₁ : Addr → Prop) h' tk,Ent prog w hb F.names O s.heap O₁ h' env ρ (F.params.zip vs) → (∀ a o fd,mg f = some (.ref a) → hb.get? a = some o → o.data = .func fd → env.code = fd.code) → wpAny (model prog w) (A.deeper env) (execs F.body env) (fun f s' => R (.ok (.ret (match f with | .ret v => v | _ => .none))) s')
    (fun e s' => wpAny (model prog w) (A.deeper env) (leaving env e) (fun ζ s'' => R (.error e) s'') (fun e' s'' => R (.error e') s'') s') { s with heap:=h',toks:=tk }) :
  ∃ a,mg f = some (.ref a) ∧ (∃ o fd,hb.get? a = some o ∧ o.cls ≠ .type "frame" ∧ o.data = .func fd) ∧ codeAny (model prog w) A (.call (.ref a) ⟨vs,[]⟩) R s:=by
 obtain ⟨a,o,fdat,ha,ho,hcls,hdat,hbody,hnames,hkind,hgen,hco,hclo,hglob,hblt,hcode,hbind⟩:=FA.there
 refine ⟨a,ha,⟨o,fdat,ho,hcls,hdat⟩,?_⟩
 have hroom : A.depth < recursionLimit:=by have:=rm.depth;omega
 refine codeAny_call_function hroom (kb.same ho hcls) hdat hco hgen hbody (codeRec_keepK hcode kb) ?_
 rw [hclo,hglob,hblt]
 refine hbind vs hlen _ _ _ _ _ _ kb (fnEnv_rule hnames hkind FA.params FA.nodup FA.nofree FA.n1 FA.n2 kb old onew hρ fun env O₁ h' tk ent ec => ?_)
 exact ⟨noLimit_keepK lim (kb.trans ent.keep),codeAny_func (h env O₁ h' tk ent fun a' o' fd' e1 e2 e3 => by
  cases ha.symm.trans e1
  cases ho.symm.trans e2
  cases hdat.symm.trans e3
  exact ec)⟩
theorem fn_rule {mg : Str → Option Value} {R : Result → Shared → Prop} {f : Str} {F : Fn} {vs : List Value} {ρ : Vars} {n : Nat} (FA : FnAt hb mg f F) (lim : hb.NoLimit) (rm : Rm false hb (n + 1) A) (kb : Keep hb s.heap) (old : Old O s.heap) (onew : ∀ a,O a → hb.get? a = none)
  (hlen : vs.length = F.params.length) (hρ : ∀ x d,ρ.lookup x = some d → ∃ v,(x,v) ∈ F.params.zip vs ∧ Rep prog w O s.heap v d)
  (h : ∀ env (O₁ : Addr → Prop) h' tk,Ent prog w hb F.names O s.heap O₁ h' env ρ (F.params.zip vs) → wpAny (model prog w) (A.deeper env) (execs F.body env) (fun f s' => R (.ok (.ret (match f with | .ret v => v | _ => .none))) s')
    (fun e s' => wpAny (model prog w) (A.deeper env) (leaving env e) (fun ζ s'' => R (.error e) s'') (fun e' s'' => R (.error e') s'') s') { s with heap:=h',toks:=tk }) :
  ∃ a,mg f = some (.ref a) ∧ (∃ o fd,hb.get? a = some o ∧ o.cls ≠ .type "frame" ∧ o.data = .func fd) ∧ codeAny (model prog w) A (.call (.ref a) ⟨vs,[]⟩) R s:=fn_ruleC FA lim rm kb old onew hlen hρ fun env O₁ h' tk ent ζ => h env O₁ h' tk ent
theorem zip_rep {h : Heap} {ps : List Str} {vs : List Value} {ds : List PyData} (rs : RepAll prog w O h vs ds) (x : Str) (d : PyData) (e : (ps.zip ds).lookup x = some d) : ∃ v,(x,v) ∈ ps.zip vs ∧ Rep prog w O h v d:=by
 induction ps generalizing vs ds with
 | nil => exact nomatch e
 | cons p ps ih =>
  cases ds with
  | nil => exact nomatch e
  | cons d' ds =>
   obtain ⟨v,us,rfl,rv,rs⟩:=rs.is
   rw [List.zip_cons_cons,lookup_cons_eq] at e
   rw [List.zip_cons_cons]
   by_cases hx : x = p
   ·rw [if_pos hx] at e;obtain rfl:=Option.some.inj e;exact ⟨v,hx ▸ List.mem_cons_self,rv⟩
   ·obtain ⟨u,hu,ru⟩:=ih rs ((if_neg hx).symm.trans e)
    exact ⟨u,List.mem_cons_of_mem _ hu,ru⟩
variable {T : Tab} {mg mb : Str → Option Value} {cl : Str → Option Value} {n : Nat} {r : Evs}
set_option tactic.hygienic true in
theorem fnE_ok (G : Gl prog w T hb mg mb) (horc : T.orc = []) (Ss : SsOk prog w hb cl n r.ss) : FnOk prog w hb mg cl (n + 1) (fnE T r):=by
 intro f ds res h
 unfold fnE at h
 split at h
 ·rename_i fd hfd
  obtain ⟨hlen,h⟩:=ite_inv h
  have FA:=G.fns f fd hfd
  obtain ⟨a,o,fdat,ha,ho,hcls,hdat,_⟩:=FA.there
  refine ⟨a,ha,⟨o,fdat,ho,hcls,hdat⟩,fun A s O vs Q E rm kb old onew rs K hQ hE => ?_⟩
  obtain ⟨a',ha',_,call⟩:=fn_rule (prog:=prog) (w:=w) (R:=fun r s' => match r with | .ok (.ret v) => Q v s' | .ok _ => False | .error e => E e s') FA G.lim rm kb old onew (vs:=vs) (rs.length.trans hlen.symm) (ρ:=fd.params.zip ds) (zip_rep rs) (fun env O₁ h' tk ent => by
   have rm' : Rm false hb n (A.deeper env):=rm.deeper env
   have K':=ent.stk K
   have q₀ : Fs prog w hb fd.names s.heap O₁ h' env ⟨fd.params.zip ds,none⟩ none:=⟨ent.F,.inl ⟨rfl,rfl⟩⟩
   rcases Rs.bind_some h with ⟨x,h1,rfl⟩ | ⟨⟨out,σ'⟩,h1,h2⟩
   ·refine Ss fd.names fd.own _ _ _ h1 (stL fd.body) (fun ζ hx => hx) (A.deeper env) _ env s.heap O₁ none _ _ rm' (fun ζ ζ e => nomatch e) q₀ K' (fun ζ ζ e => nomatch e) fun x' e ea O' h₁ h₂ tk' C σ' oa' hC aft m => ?_
    cases e
    obtain ⟨l,hl,_⟩:=K
    refine leave_ok (l:=l) (s:={ s with heap:=h₂,toks:=tk' }) (by show A.frames.map _ = _;rw [hl];rfl) ent.frame (aft.stk q₀ K') m fun h₃ k₃ fl => hE x rfl ea h₃ tk' C hC (aft.fs.F.F.keep.trans k₃) ?_
    obtain ⟨t,tk'',⟨oe,us,T',oT,ts,g1,g2,g3,g4,g5,g⟩,f2,f3,f4⟩:=fl
    exact ⟨t,tk'',⟨oe,us,T',oT,ts,g1,g2,g3,g4,aft.fs.F.F.keep.none g5,g⟩,aft.fs.F.F.keep.none f2,aft.fs.F.F.keep.none f3,f4⟩
   ·refine Ss fd.names fd.own _ _ _ h1 (stL fd.body) (fun ζ hx => hx) (A.deeper env) _ env s.heap O₁ none _ _ rm' (fun ζ ζ e => nomatch e) q₀ K' (fun out' σ₂ e O' h₁ tk' oa' fl hfl aft => ?_) (fun ζ e => nomatch e)
    cases e
    clear h h1
    cases out with
    | next => cases h2;cases hfl;exact hQ _ rfl .none _ ⟨h₁,tk',rfl,aft.fs.F.F.keep,.none⟩
    | brk => exact nomatch h2
    | ret d => obtain rfl:=Option.some.inj h2;obtain ⟨v,rfl,hv⟩:=hfl;exact hQ _ rfl v _ ⟨h₁,tk',rfl,aft.fs.F.F.keep,hv O old fun b z => aft.sub b (ent.sub b z)⟩)
  cases ha.symm.trans ha'
  exact wpAny_call call
 ·rw [horc] at h
  cases h
end
end
section
variable [bs : Base]
section
variable {prog : Program} {w : World} {T : Tab} {hb : Heap} {mg mb : Str → Option Value} {cl : Str → Option Value}
structure AllOk (prog : Program) (w : World) (T : Tab) (hb : Heap) (mg mb : Str → Option Value) (cl : Str → Option Value) (n : Nat) (r : Evs) : Prop where
 bd : Bd prog w T hb mg mb cl n r
 ss : SsOk prog w hb cl n r.ss
 fn : FnOk prog w hb mg cl n r.fn
theorem evs_ok (G : Gl prog w T hb mg mb) (X : ExcsOk T hb mg cl) (horc : T.orc = []) : ∀ n,AllOk prog w T hb mg mb cl n (evs T n)
 | 0 => ⟨⟨rfl,G,fun ζ ζ ζ ζ h => (nomatch h),fun ζ ζ ζ ζ h => (nomatch h),fun ζ ζ ζ ζ h => (nomatch h),fun ζ ζ ζ ζ h => (nomatch h),fun ζ ζ ζ ζ ζ ζ => rfl⟩,fun ζ ζ ζ ζ ζ h => (nomatch h),fun ζ ζ ζ h => (nomatch h)⟩
 | n + 1 =>
  let ⟨B,Ss,Sf⟩:=evs_ok G X horc n
  ⟨⟨rfl,G,exE_ok B.still G B.ex B.tr Sf,trE_ok B.ex B.tr,useE_ok B.still G B.ex B.tr,freshE_ok B.still G B.ex B.tr,fun ζ ζ ζ ζ ζ ζ => rfl⟩,ssE_ok Ss (stmtE_ok B X Ss),fnE_ok G horc Ss⟩
end
end
section
variable [bs : Base]
noncomputable def exQ (T : Tab) (r : Evs) (sc : Names) (ρ : Vars) (e : Expr) : Option PyData:=if (e.ctorIdx == 23 || e.ctorIdx == 15 || e.ctorIdx == 8) = true then exE T r sc ρ e else none
noncomputable def trQ (r : Evs) (sc : Names) (ρ : Vars) (e : Expr) : Option Bool:=if (e.ctorIdx == 15) = true then trE r sc ρ e else none
noncomputable def evq (T : Tab) : Nat → Evs
 | 0 => ⟨true,fun ζ ζ ζ => none,fun ζ ζ ζ => none,fun ζ ζ ζ ζ => none,fun ζ ζ => none⟩
 | n + 1 => ⟨true,exQ T (evq T n),trQ (evq T n),fun ζ ζ ζ ζ => none,fun ζ ζ => none⟩
theorem evq_still (T : Tab) : ∀ n,(evq T n).still = true
 | 0 => rfl
 | _ + 1 => rfl
section
variable {prog : Program} {w : World} {T : Tab} {hb : Heap} {mg mb : Str → Option Value}
theorem evq_ok (G : Gl prog w T hb mg mb) : ∀ n,ExOk prog w hb true n (evq T n).ex ∧ TrOk prog w hb true n (evq T n).tr
 | 0 => ⟨fun ζ ζ ζ ζ h => (nomatch h),fun ζ ζ ζ ζ h => (nomatch h)⟩
 | n + 1 => by
  obtain ⟨Sx,St'⟩:=evq_ok G n
  have hs:=evq_still T n
  refine ⟨fun sc ρ e d h A s env hF O Q E rm' F K hQ => ?_,fun sc ρ e b h A s env hF O Q E rm' F K hQ => ?_⟩
  ·have rm : Rm true hb n A:=rm'.le (Nat.le_succ n)
   cases e with
   | Name x p => exact nameE_ok G F h hQ
   | Compare a ops bs p =>
    obtain ⟨op,ho,h⟩:=bMp (show ((oneOf ops).bind fun op => (oneOf bs).bind fun b => if isSet b = true then none else ((evq T n).ex sc ρ a).bind fun d1 => ((evq T n).ex sc ρ b).bind fun d2 => (cmpop op d1 d2).bind fun c => some (.bool c)) = some d from h)
    obtain ⟨b,hb',h⟩:=bMp h
    rw [oneOf_inv ho,oneOf_inv hb']
    obtain ⟨hs,h⟩:=ite_inv' h
    exact cmpE_ok Sx rm (Bool.eq_false_iff.mpr hs) h F K hQ
   | ListComp => exact listCompE_ok (r:=evq T n) G (hs.symm ▸ Sx) (hs.symm ▸ St') (hs.symm ▸ rm) h F K hQ
   | _ => exact nomatch h
  ·obtain ⟨_,h⟩:=ite_inv h
   exact trE_ok Sx St' sc ρ e b h A s env hF O Q E rm' F K hQ
end
end
section
theorem ofString_iff (a b : String) : (Str.ofString a = Str.ofString b) ↔ a = b:=by
 constructor
 ·intro h
  rw [Str.ofString_eq_toList,Str.ofString_eq_toList] at h
  have h1 : a.toList.map Char.toNat = b.toList.map Char.toNat:=by simpa using h
  have h2 : a.toList = b.toList:=List.map_inj_right (f:=Char.toNat) (fun x y e => Char.toNat_inj.mp e) |>.mp h1
  exact String.toList_inj.mp h2
 ·rintro rfl;rfl
section
variable (T : Tab) (r : Evs) (n : Nat) (sc : Names) (ρ : Vars)
theorem ev_ex : (evs T (n + 1)).ex = exE T (evs T n):=rfl
theorem ev_tr : (evs T (n + 1)).tr = trE (evs T n):=rfl
theorem ev_ss : (evs T (n + 1)).ss = ssE T (evs T n):=rfl
theorem x_name (x p) : exE T r sc ρ (.Name x p) = if isVar (sc.lookup x) = true then (ρ.lookup x) else if sc.lookup x = some .globalImplicit then (T.glob.lookup x) else none:=rfl
theorem x_bin (a op b p) (h : replV a b = none) : exE T r sc ρ (.BinOp a op b p) = (r.ex sc ρ a).bind fun d1 => (r.ex sc ρ b).bind fun d2 => (binop op d1 d2):=by
 show (match replV a b with | some v => replE sc ρ op v | none => _) = _
 rw [h]
theorem x_cmp (a op b p) : exE T r sc ρ (.Compare a [op] [b] p) = if isSet b = true then none else (r.ex sc ρ a).bind fun d1 => (r.ex sc ρ b).bind fun d2 => (cmpop op d1 d2).bind fun c => some (.bool c):=rfl
theorem x_bool (op es p) : exE T r sc ρ (.BoolOp op es p) = boolGo r sc ρ op es:=rfl
theorem x_ite (c a b p) : exE T r sc ρ (.IfExp c a b p) = (r.tr sc ρ c).bind fun t => if t = true then r.ex sc ρ a else r.ex sc ρ b:=rfl
theorem x_lcomp (e g s p) : exE T r sc ρ (.ListComp e g s p) = compE r sc ρ (.ListComp e g s p):=rfl
theorem x_call (f q as p) : exE T r sc ρ (.Call (.Name f q) as [] p) = callE r sc ρ f as:=rfl
theorem t_bool (op es p) : trE r sc ρ (.BoolOp op es p) = allGo r sc ρ op es:=rfl
theorem t_cmp (a op b p) : trE r sc ρ (.Compare a [op] [b] p) = if isSet b = true then none else (r.ex sc ρ a).bind fun d1 => (r.ex sc ρ b).bind fun d2 => (cmpop op d1 d2):=rfl
variable (ow : Option Str) (σ : St)
theorem s_cons (st rest) : ssE T r sc ow σ (st :: rest) = (stmtE T r sc ow σ st).bind fun p => match p with
   | (.next,σ') => r.ss sc ow σ' rest
   | p => .ok p:=rfl
theorem s_if (c a b p) : stmtE T r sc ow σ (.If c a b p) = (Rs.up (trO r sc σ c)).bind fun t => if t = true then r.ss sc ow σ a else r.ss sc ow σ b:=rfl
theorem s_asg (x q e p) : stmtE T r sc ow σ (.Assign [.Name x q] e p) = if isOwn (sc.lookup x) = true then
   (if ow = some x then (if newForm e = true ∧ σ.own = none ∧ (σ.ρ.lookup x).isNone = true then (Rs.up (r.ex sc σ.ρ e)).bind fun d => (match d with | .list ds => .ok (.next,{ σ with own:=some (x,ds) }) | _ => none) else none)
   else (Rs.up (exO r sc σ e)).bind fun d => .ok (.next,{ σ with ρ:=setV σ.ρ x d }))
  else none:=by
 show Rs.up (asgE r sc ow σ x e) = _
 unfold asgE
 split
 ·split
  ·split
   ·cases r.ex sc σ.ρ e with
    | none => rfl
    | some d => cases d <;> rfl
   ·rfl
  ·cases exO r sc σ e <;> rfl
 ·rfl
end
theorem bo_mul {a b : Int} (h : b.natAbs < 1073741824) : binop .Mult (.int a) (.int b) = some (.int (a * b)):=by show orD (if b.natAbs < 1073741824 then some _ else none) _ = _;rw [if_pos h];rfl
theorem bo_fdiv {a b : Int} (h0 : b ≠ 0) (h : b.natAbs < 1073741824) : binop .FloorDiv (.int a) (.int b) = some (.int (a.fdiv b)):=by show (if b = 0 then none else if b.natAbs < 1073741824 then _ else none) = _;rw [if_neg h0,if_pos h]
theorem bo_mod {a b : Int} (h0 : b ≠ 0) : binop .Mod (.int a) (.int b) = some (.int (a.fmod b)):=if_neg h0
theorem bo_pow {a b : Int} (h : 2 ≤ a ∧ a < 1024 ∧ 0 ≤ b ∧ b < 1024) : binop .Pow (.int a) (.int b) = some (.int (a ^ b.toNat)):=if_pos h
theorem bo_adds {x y : Str} (h : x.length + y.length ≤ lim) : binop .Add (.str x) (.str y) = some (.str (x ++ y)):=by show orD none (orD (if _ then some _ else none) _) = _;rw [if_pos h];rfl
theorem bo_addl {xs ys : List PyData} (h : xs.length + ys.length ≤ lim) : binop .Add (.list xs) (.list ys) = some (.list (xs ++ ys)):=if_pos h
theorem co_ge (a b : Int) : cmpop .GtE (.int a) (.int b) = some (decide (a ≥ b)):=rfl
theorem co_eqs (x y : Str) : cmpop .Eq (.str x) (.str y) = some (x == y):=rfl
theorem co_nes (x y : Str) : cmpop .NotEq (.str x) (.str y) = some (!(x == y)):=rfl
theorem co_eqi (a b : Int) : cmpop .Eq (.int a) (.int b) = some (a == b):=rfl
theorem co_nel {xs ys : List PyData} (h : SeqAt.shaped (.list xs) = true ∧ SeqAt.shaped (.list ys) = true) : cmpop .NotEq (.list xs) (.list ys) = some (!PyData.eqvAll xs ys):=congrArg (Option.map (!·)) (if_pos h)
theorem co_inl {d : PyData} {xs : List PyData} (h : SeqAt.shaped d = true ∧ SeqAt.shaped (.list xs) = true) : cmpop .In d (.list xs) = some (xs.any fun y => PyData.eqv y d):=by
 have e : inD d (.list xs) = orD none (if SeqAt.shaped d = true ∧ SeqAt.shaped (.list xs) = true then some (xs.any fun y => PyData.eqv y d) else none):=by cases d <;> rfl
 exact e.trans (if_pos h)
theorem tr_l {xs : List PyData} (h : xs.length ≤ lim) : truth (.list xs) = some (!xs.isEmpty):=if_pos h
theorem gi_l {xs : List PyData} {k : Int} (h : xs.length ≤ lim) : getitem (.list xs) (.int k) = (seqIndex? k xs.length).bind (xs[·]?):=if_pos h
theorem gi_s {x : Str} {k : Int} (h : x.length ≤ lim ∧ -(x.length : Int) ≤ k ∧ k < x.length) : getitem (.str x) (.int k) = some (.str (Txt.item x k)):=if_pos h
theorem sl_l {xs : List PyData} {lo hi st : Option Int} (h : xs.length ≤ lim ∧ st ≠ some 0) : slice (.list xs) lo hi st = some (.list (pickD xs lo hi st)):=if_pos h
theorem sl_s {x : Str} {lo hi : Option Int} (h : x.length ≤ lim) : slice (.str x) lo hi none = some (.str (Txt.slice x lo hi)):=if_pos h
theorem seq_in {k : Int} {n : Nat} (h0 : 0 ≤ k) (h : k < n) : seqIndex? k n = some k.toNat:=by
 have hk : ¬ k < 0:=by omega
 simp only [seqIndex?,hk,if_false]
 rw [if_pos (by simp [h0,h])]
theorem gi_l0 {x : PyData} {xs : List PyData} (h : xs.length < lim) : getitem (.list (x :: xs)) (.int 0) = some x:=by
 rw [gi_l (show (x :: xs).length ≤ lim by rw [List.length_cons];omega),seq_in (by decide) (by rw [List.length_cons];omega)];rfl
theorem ok_R {α : Type} (a : α) : okR (some (.ok a)) = some a:=rfl
theorem exO_none {r : Evs} {sc : Names} {ρ : Vars} {e : Expr} : exO r sc ⟨ρ,none⟩ e = r.ex sc ρ e:=by
 show orD (r.ex sc ρ e) ((r.ex sc ρ e).bind fun d => if scalar d = true then some d else none) = _
 cases r.ex sc ρ e <;> rfl
theorem trO_none {r : Evs} {sc : Names} {ρ : Vars} {e : Expr} : trO r sc ⟨ρ,none⟩ e = r.tr sc ρ e:=by
 show orD (r.tr sc ρ e) (r.tr sc ρ e) = _
 cases r.tr sc ρ e <;> rfl
theorem s_for {T : Tab} {r : Evs} {sc : Names} {ow : Option Str} {σ : St} (t i b o p) : stmtE T r sc ow σ (.For t i b o p) = Rs.up (if offT ow t = true then (match enumArg sc i with
   | some a => (tupOf t).bind fun ζ => ((r.ex sc σ.ρ a).bind asTuple).bind fun ds => forGo r sc ow t b o (enumItems ds) σ
   | none => (iterE r sc σ.ρ i).bind fun ds => forGo r sc ow t b o ds σ) else none):=rfl
theorem s_ret {T : Tab} {r : Evs} {sc : Names} {ow : Option Str} {ρ : Vars} {e : Expr} {p : Pos} : stmtE T r sc ow ⟨ρ,none⟩ (.Return (some e) p) = (Rs.up (r.ex sc ρ e)).bind fun d => .ok (.ret d,⟨ρ,none⟩):=by
 show Rs.up (orD none ((exO r sc ⟨ρ,none⟩ e).map fun d => (Out.ret d,(⟨ρ,none⟩ : St)))) = _
 rw [exO_none]
 cases r.ex sc ρ e <;> rfl
theorem exO_of {r : Evs} {sc : Names} {σ : St} {e : Expr} {d : PyData} (h : r.ex sc σ.ρ e = some d) : exO r sc σ e = some d:=by unfold exO;rw [h];rfl
theorem fn_eq {T : Tab} {n : Nat} {f : Str} {ds : List PyData} {F : Fn} {res : Except Ex PyData} (hf : T.fns.lookup f = some F) (hl : F.params.length = ds.length)
  (h : (((evs T n).ss F.names F.own ⟨F.params.zip ds,none⟩ F.body).bind fun p => (match p with
   | (.ret d,_) => Rs.ok d
   | (.next,_) => .ok .none
   | (.brk,_) => none)) = some res) : (evs T (n + 1)).fn f ds = some res:=by
 show fnE T (evs T n) f ds = some res
 unfold fnE
 rw [hf]
 simp only [hl,if_true]
 exact h
noncomputable def fnAt (p : Program) (own : Option Str) (i : Nat) : Fn:=⟨(argsOf (nth p.main.body i)).args.map (·.arg),bodyOf (nth p.main.body i),(scopeOf (nth p.main.body i)).names,own⟩
noncomputable def sv (s : Stmt) : Expr × Expr × List Stmt × List Stmt :=
 if h : s.ctorIdx = 5 then Stmt.Assign.elim (motive_2:=fun ζ => Expr × Expr × List Stmt × List Stmt) s h fun ts e ζ => ((ts[0]?).getD e,e,[],[])
 else if h : s.ctorIdx = 12 then Stmt.If.elim (motive_2:=fun ζ => Expr × Expr × List Stmt × List Stmt) s h fun c a b ζ => (c,c,a,b)
 else if h : s.ctorIdx = 9 then Stmt.For.elim (motive_2:=fun ζ => Expr × Expr × List Stmt × List Stmt) s h fun t i a b ζ => (t,i,a,b)
 else if h : s.ctorIdx = 3 then Stmt.Return.elim (motive_2:=fun ζ => Expr × Expr × List Stmt × List Stmt) s h fun e ζ => ((e.getD default),e.getD default,[],[])
 else if h : s.ctorIdx = 24 then Stmt.Expr.elim (motive_2:=fun ζ => Expr × Expr × List Stmt × List Stmt) s h fun e ζ => (e,e,[],[])
 else if h : s.ctorIdx = 11 then Stmt.While.elim (motive_2:=fun ζ => Expr × Expr × List Stmt × List Stmt) s h fun c a b ζ => (c,c,a,b)
 else if h : s.ctorIdx = 17 then Stmt.Try.elim (motive_2:=fun ζ => Expr × Expr × List Stmt × List Stmt) s h fun a ζ b ζ ζ => (default,default,a,b)
 else (default,default,[],[])
noncomputable def svT (st : Stmt) : Expr:=(sv st).1
noncomputable def svE (st : Stmt) : Expr:=(sv st).2.1
noncomputable def svB (st : Stmt) : List Stmt:=(sv st).2.2.1
noncomputable def svO (st : Stmt) : List Stmt:=(sv st).2.2.2
noncomputable def cv (e : Expr) : Expr × List Comprehension × Scope :=
 if h : e.ctorIdx = 8 then Expr.ListComp.elim (motive_1:=fun ζ => Expr × List Comprehension × Scope) e h fun x gs s ζ => (x,gs,s)
 else if h : e.ctorIdx = 2 then Expr.BinOp.elim (motive_1:=fun ζ => Expr × List Comprehension × Scope) e h fun a ζ b ζ => (b,[⟨a,a,[],0⟩],default)
 else if h : e.ctorIdx = 15 then Expr.Compare.elim (motive_1:=fun ζ => Expr × List Comprehension × Scope) e h fun a ζ ζ ζ => (a,[],default)
 else if h : e.ctorIdx = 24 then Expr.List.elim (motive_1:=fun ζ => Expr × List Comprehension × Scope) e h fun es ζ => ((es[1]?).getD e,[],default)
 else if h : e.ctorIdx = 16 then Expr.Call.elim (motive_1:=fun ζ => Expr × List Comprehension × Scope) e h fun ζ as ζ ζ => ((as[0]?).getD e,[],default)
 else (e,[],default)
noncomputable def cvE (e : Expr) : Expr:=(cv e).1
noncomputable def cvS (e : Expr) : Scope:=(cv e).2.2
noncomputable def cvI (i : Nat) (e : Expr) : Expr:=((cv e).2.1[i]?).elim e (·.iter)
noncomputable def cvT (i : Nat) (e : Expr) : Expr:=((cv e).2.1[i]?).elim e (·.target)
noncomputable def cvF (i : Nat) (e : Expr) : List Expr:=((cv e).2.1[i]?).elim [] (·.ifs)
end
section
theorem pick_list {α : Type} (xs : List α) (a : Nat) : ∀ k : Nat,((List.range k).map (a + ·)).filterMap (xs[·]?) = (xs.drop a).take k:=by
 intro k
 have:=pick_run xs.toArray a k
 simpa using this
theorem pickD_plain (xs : List PyData) (lo hi : Option Int) : pickD xs lo hi none = (xs.drop (lo.elim 0 (clipAt xs.length))).take (hi.elim xs.length (clipAt xs.length) - lo.elim 0 (clipAt xs.length)):=by
 unfold pickD
 rw [sliceBounds_plain]
 show List.filterMap _ (sliceRange _ _ 1) = _
 rw [sliceRange_one,pick_list]
theorem pickD_from (xs : List PyData) (k : Nat) : pickD xs (some (k : Int)) none none = xs.drop k:=by
 rw [pickD_plain]
 simp only [Option.elim]
 rw [clipAt_nat]
 by_cases h : k ≤ xs.length
 ·rw [Nat.min_eq_left h];apply List.take_of_length_le;simp
 ·rw [Nat.min_eq_right (by omega),List.drop_eq_nil_of_le (by omega),List.drop_eq_nil_of_le (by omega)];simp
theorem pickD_to (xs : List PyData) (k : Nat) : pickD xs none (some (k : Int)) none = xs.take k:=by
 rw [pickD_plain]
 simp only [Option.elim]
 rw [clipAt_nat]
 simp
theorem pickD_tail (xs : List PyData) : pickD xs (some 1) none none = xs.tail:=by
 have:=pickD_from xs 1
 rw [List.drop_one] at this
 exact this
theorem pickD_mem {xs : List PyData} {lo hi st : Option Int} {d : PyData} (h : d ∈ pickD xs lo hi st) : d ∈ xs:=by
 unfold pickD at h
 obtain ⟨i,_,hi⟩:=List.mem_filterMap.mp h
 exact List.mem_of_getElem? hi
section
variable {T : Tab} {n : Nat} {sc : Names} {ow : Option Str} {σ : St} {ρ : Vars}
theorem s_raise {r : Evs} (c : Str) (np cp p : Pos) (e : Expr) : stmtE T r sc ow σ (.Raise (some (.Call (.Name c np) [e] [] cp)) none p) =
  (if sc.lookup c = some .globalImplicit ∧ c ∈ T.excs ∧ isStar e = false then ((r.ex sc σ.ρ e).bind asStr).map fun x => (⟨c,x⟩ : Ex) else none).map .error:=rfl
theorem ss_skip {c : Expr} {a : List Stmt} {p : Pos} {rest : List Stmt} (h : (evs T (n + 1)).tr sc ρ c = some false) : (evs T (n + 2)).ss sc ow ⟨ρ,none⟩ (.If c a [] p :: rest) = (evs T (n + 1)).ss sc ow ⟨ρ,none⟩ rest:=by
 rw [ev_ss,s_cons,s_if,trO_none,h]
 rfl
theorem ss_raise {c : Expr} {e : Expr} {a : Stmt} {p : Pos} {rest : List Stmt} {cn : Str} {np cp rp : Pos} {x : Str} (ha : a = .Raise (some (.Call (.Name cn np) [e] [] cp)) none rp) (h : (evs T (n + 1)).tr sc ρ c = some true) (hg : sc.lookup cn = some .globalImplicit) (hm : cn ∈ T.excs) (hs : isStar e = false)
  (he : (evs T n).ex sc ρ e = some (.str x)) : (evs T (n + 2)).ss sc ow ⟨ρ,none⟩ (.If c [a] [] p :: rest) = some (.error ⟨cn,x⟩):=by
 subst ha
 rw [ev_ss,s_cons,s_if,trO_none,h]
 show Rs.bind ((evs T (n + 1)).ss sc ow ⟨ρ,none⟩ [.Raise (some (.Call (.Name cn np) [e] [] cp)) none rp]) _ = _
 rw [ev_ss,s_cons,s_raise,if_pos ⟨hg,hm,hs⟩,he]
 rfl
theorem ss_asg {x : Str} {q p : Pos} {e : Expr} {d : PyData} {rest : List Stmt} (ho : isOwn (sc.lookup x) = true) (h : (evs T n).ex sc ρ e = some d) : (evs T (n + 1)).ss sc none ⟨ρ,none⟩ (.Assign [.Name x q] e p :: rest) = (evs T n).ss sc none ⟨setV ρ x d,none⟩ rest:=by
 rw [ev_ss,s_cons,s_asg,if_pos ho,if_neg (by simp),exO_none,h]
 rfl
theorem ss_ret {e : Expr} {p : Pos} {d : PyData} {rest : List Stmt} (h : (evs T n).ex sc ρ e = some d) : (evs T (n + 1)).ss sc ow ⟨ρ,none⟩ (.Return (some e) p :: rest) = some (.ok (.ret d,⟨ρ,none⟩)):=by
 rw [ev_ss,s_cons,s_ret,h]
 rfl
theorem ss_for {t it : Expr} {b o rest : List Stmt} {p : Pos} {ds : List PyData} {z : Out × St} (hoff : offT ow t = true) (he : enumArg sc it = none) (hi : iterE (evs T n) sc ρ it = some ds) (h : forGo (evs T n) sc ow t b o ds ⟨ρ,none⟩ = some z) :
  (evs T (n + 1)).ss sc ow ⟨ρ,none⟩ (.For t it b o p :: rest) = (match (generalizing:=false) z with
   | (.next,σ') => (evs T n).ss sc ow σ' rest
   | z => some (.ok z)):=by
 have e : stmtE T (evs T n) sc ow ⟨ρ,none⟩ (.For t it b o p) = Rs.up (some z):=by
  rw [s_for,if_pos hoff]
  simp only [he,hi,Option.bind_some,h]
 rw [ev_ss,s_cons,e]
 obtain ⟨out,σ'⟩:=z
 cases out <;> rfl
theorem forGo_step {r : Evs} {t : Expr} {b o : List Stmt} {d : PyData} {ds : List PyData} {ρ' : Vars} {z : Out × St} (hb : bindT sc t d σ.ρ = some ρ') (h : r.ss sc ow { σ with ρ:=ρ' } b = some (.ok z)) : forGo r sc ow t b o (d :: ds) σ = (match (generalizing:=false) z.1 with
   | .next => forGo r sc ow t b o ds z.2
   | .brk => some (.next,z.2)
   | .ret d => some (.ret d,z.2)):=by
 show (bindT sc t d σ.ρ).bind (fun ρ' => (okR (r.ss sc ow { σ with ρ:=ρ' } b)).bind _) = _
 rw [hb]
 show (okR (r.ss sc ow { σ with ρ:=ρ' } b)).bind _ = _
 rw [h]
 obtain ⟨out,σ'⟩:=z
 cases out <;> rfl
end
end
section
section
variable {T : Tab} {n : Nat} {sc : Names} {ow : Option Str} {σ : St} {st : Stmt} {rest : List Stmt} {z : Out × St}
theorem ss_ifV {t : Bool} (hs : ∃ p,st = .If (svE st) (svB st) (svO st) p) (h : trO (evs T (n + 1)) sc σ (svE st) = some t) (hz : (evs T (n + 1)).ss sc ow σ (cond t (svB st) (svO st)) = some (.ok z)) : (evs T (n + 2)).ss sc ow σ [st] = some (.ok z):=by
 obtain ⟨p,e⟩:=hs
 generalize svE st = c at e h
 generalize svB st = a at e hz
 generalize svO st = b at e hz
 subst e
 rw [ev_ss,s_cons,s_if,h]
 have e : ((Rs.up (some t)).bind fun t => if t = true then (evs T (n + 1)).ss sc ow σ a else (evs T (n + 1)).ss sc ow σ b) = (evs T (n + 1)).ss sc ow σ (cond t a b):=by cases t <;> rfl
 rw [e,hz]
 obtain ⟨out,σ'⟩:=z
 cases out <;> rfl
theorem ss_asgV {ρ : Vars} {x : Str} {d : PyData} {z : Rs (Out × St)} (hs : ∃ q p,st = .Assign [.Name x q] (svE st) p) (ho : isOwn (sc.lookup x) = true) (h : (evs T n).ex sc ρ (svE st) = some d) (hz : (evs T n).ss sc none ⟨setV ρ x d,none⟩ rest = z) : (evs T (n + 1)).ss sc none ⟨ρ,none⟩ (st :: rest) = z:=by
 obtain ⟨q,p,e⟩:=hs
 generalize svE st = c at e h
 subst e
 exact (ss_asg ho h).trans hz
theorem ss_retV {ρ : Vars} {d : PyData} (hs : ∃ p,st = .Return (some (svE st)) p) (h : (evs T n).ex sc ρ (svE st) = some d) : (evs T (n + 1)).ss sc ow ⟨ρ,none⟩ (st :: rest) = some (.ok (.ret d,⟨ρ,none⟩)):=by
 obtain ⟨p,e⟩:=hs
 generalize svE st = c at e h
 subst e
 exact ss_ret h
theorem ss_ownV {ρ : Vars} {x : Str} {ds : List PyData} {z : Rs (Out × St)} (hs : ∃ q p,st = .Assign [.Name x q] (svE st) p) (ho : isOwn (sc.lookup x) = true) (hf : newForm (svE st) = true) (hn : (ρ.lookup x).isNone = true) (h : (evs T n).ex sc ρ (svE st) = some (.list ds)) (hz : (evs T n).ss sc (some x) ⟨ρ,some (x,ds)⟩ rest = z) :
  (evs T (n + 1)).ss sc (some x) ⟨ρ,none⟩ (st :: rest) = z:=by
 obtain ⟨q,p,e⟩:=hs
 generalize svE st = c at e h hf
 subst e
 rw [ev_ss,s_cons,s_asg,if_pos ho,if_pos rfl,if_pos ⟨hf,rfl,hn⟩,h]
 exact hz
theorem ss_enumV {a : Expr} {ds : List PyData} {σ' : St} (hs : ∃ p,st = .For (svT st) (svE st) (svB st) (svO st) p) (hoff : offT ow (svT st) = true) (ht : (tupOf (svT st)).isSome = true) (he : enumArg sc (svE st) = some a) (hi : ((evs T n).ex sc σ.ρ a).bind asTuple = some ds) (h : forGo (evs T n) sc ow (svT st) (svB st) (svO st) (enumItems ds) σ = some (.next,σ'))
  (hz : (evs T n).ss sc ow σ' rest = some (.ok z)) : (evs T (n + 1)).ss sc ow σ (st :: rest) = some (.ok z):=by
 obtain ⟨p,e⟩:=hs
 generalize svT st = t at e h hoff ht
 generalize svE st = i at e he
 generalize svB st = a at e h
 generalize svO st = b at e h
 subst e
 obtain ⟨es,ht⟩:=Option.isSome_iff_exists.mp ht
 rw [ev_ss,s_cons,s_for,if_pos hoff,he,ht]
 show (Rs.up ((((evs T n).ex sc σ.ρ _).bind asTuple).bind _)).bind _ = _
 rw [hi]
 show (Rs.up (forGo (evs T n) sc ow t a b _ σ)).bind _ = _
 rw [h]
 exact hz
theorem ss_methV {σ' : St} (hs : ∃ p,st = .Expr (svE st) p) (h : methE (evs T n) sc σ (svE st) = some (.next,σ')) (hz : (evs T n).ss sc ow σ' rest = some (.ok z)) : (evs T (n + 1)).ss sc ow σ (st :: rest) = some (.ok z):=by
 obtain ⟨p,e⟩:=hs
 generalize svE st = c at e h
 subst e
 rw [ev_ss,s_cons]
 show (Rs.up (methE (evs T n) sc σ c)).bind _ = _
 rw [h]
 exact hz
theorem ss_forV {ds : List PyData} {σ' : St} (hs : ∃ p,st = .For (svT st) (svE st) (svB st) (svO st) p) (hoff : offT ow (svT st) = true) (he : enumArg sc (svE st) = none) (hi : iterE (evs T n) sc σ.ρ (svE st) = some ds) (h : forGo (evs T n) sc ow (svT st) (svB st) (svO st) ds σ = some (.next,σ'))
  (hz : (evs T n).ss sc ow σ' rest = some (.ok z)) : (evs T (n + 1)).ss sc ow σ (st :: rest) = some (.ok z):=by
 obtain ⟨p,e⟩:=hs
 generalize svT st = t at e h hoff
 generalize svE st = i at e hi he
 generalize svB st = a at e h
 generalize svO st = b at e h
 subst e
 rw [ev_ss,s_cons,s_for,if_pos hoff,he]
 show (Rs.up ((iterE (evs T n) sc σ.ρ i).bind _)).bind _ = _
 rw [hi]
 show (Rs.up (forGo (evs T n) sc ow t a b ds σ)).bind _ = _
 rw [h]
 exact hz
theorem forGo_nextV {t : Expr} {b o : List Stmt} {d : PyData} {ds : List PyData} {ρ ρ' : Vars} {w : Option (Str × List PyData)} {σ' : St} {r : Evs} {z : Option (Out × St)} (h : r.ss sc ow ⟨ρ',w⟩ b = some (.ok (.next,σ'))) (hb : bindT sc t d ρ = some ρ') (hz : forGo r sc ow t b o ds σ' = z) :
  forGo r sc ow t b o (d :: ds) ⟨ρ,w⟩ = z:=(forGo_step (z:=(.next,σ')) hb h).trans hz
theorem forGo_brkV {t : Expr} {b o : List Stmt} {d : PyData} {ds : List PyData} {ρ ρ' : Vars} {w : Option (Str × List PyData)} {σ' : St} {r : Evs} (h : r.ss sc ow ⟨ρ',w⟩ b = some (.ok (.brk,σ'))) (hb : bindT sc t d ρ = some ρ') :
  forGo r sc ow t b o (d :: ds) ⟨ρ,w⟩ = some (.next,σ'):=forGo_step (z:=(.brk,σ')) hb h
theorem forGo_nil {t : Expr} {b : List Stmt} {σ : St} : forGo (evs T (n + 1)) sc ow t b [] [] σ = some (.next,σ):=rfl
end
theorem gi_nat {xs : List PyData} {k : Nat} {d : PyData} (h : xs[k]? = some d) (hl : xs.length ≤ lim) : getitem (.list xs) (.int (k : Int)) = some d:=by
 rw [gi_l hl,seq_in (Int.natCast_nonneg k) (Int.ofNat_lt.mpr (List.getElem?_eq_some_iff.mp h).1),Int.toNat_natCast]
 exact h
end
section
variable [bs : Base]
theorem clauseM {α : Type} {r : Evs} {sc : Names} {ρ : Vars} {target : Expr} {ifs : List Expr} {inner : Vars → List PyData → Option (List PyData)} (e : α → PyData) {p : α → Bool} {g : α → List PyData} : ∀ (xs : List α) (acc : List PyData),
  (∀ x ∈ xs,∃ ρ',bindT sc target (e x) ρ = some ρ' ∧ testsE r sc ρ' ifs = some (p x) ∧ (p x = true → ∀ acc : List PyData,acc.length + (g x).length ≤ 1000000 → inner ρ' acc = some (acc ++ g x))) →
  acc.length + ((xs.filter p).flatMap g).length ≤ 1000000 → clauseGo r sc ρ target ifs inner (xs.map e) acc = some (acc ++ (xs.filter p).flatMap g)
 | [],acc,_,_ => congrArg some (List.append_nil acc).symm
 | d :: ds,acc,h,hl => by
  obtain ⟨ρ',h1,h2,h3⟩:=h d List.mem_cons_self
  rw [List.map_cons]
  unfold clauseGo
  rw [h1,Option.bind_some,h2,Option.bind_some]
  have h':=fun x hx => h x (List.mem_cons_of_mem d hx)
  cases hp : p d with
  | false =>
   rw [List.filter_cons_of_neg (by rw [hp];exact Bool.false_ne_true)] at hl ⊢
   exact clauseM e ds acc h' hl
  | true =>
   rw [List.filter_cons_of_pos hp,List.flatMap_cons,List.length_append,← Nat.add_assoc] at hl
   rw [if_pos rfl,h3 hp acc (Nat.le_trans (Nat.le_add_right _ _) hl),Option.bind_some,clauseM e ds (acc ++ g d) h' (by rw [List.length_append];exact hl),List.filter_cons_of_pos hp,List.flatMap_cons,List.append_assoc]
noncomputable def freeOf (scope : Scope) (ρ : Vars) : Vars:=ρ.filter fun p => scope.names.lookup p.1 == some .free
set_option tactic.hygienic true in
theorem freeOf_none {scope : Scope} {x : Str} (h : isOwn (scope.names.lookup x) = true) : ∀ ρ : Vars,(freeOf scope ρ).lookup x = none
 | [] => rfl
 | (y,d) :: r => by
  have ih:=freeOf_none h r
  unfold freeOf at ih ⊢
  rw [List.filter_cons]
  split
  ·rename_i hy
   rw [lookup_cons_eq,if_neg fun e => by rw [e,beq_iff_eq.mp hy] at h;cases h]
   exact ih
  ·exact ih
theorem c_list (r : Evs) (sc : Names) (ρ : Vars) (elt : Expr) (g : Comprehension) (gs : List Comprehension) (scope : Scope) (p : Pos) : compE r sc ρ (.ListComp elt (g :: gs) scope p) =
  if okScope sc scope = true ∧ (g :: gs).all (fun g => g.is_async == 0 && !isSet g.iter && (!r.still || (nameOf g.target).isSome)) = true then
   (iterE r sc ρ g.iter).bind fun ds =>
    (compGo r scope.names (fun ρ' (acc : List PyData) => (r.ex scope.names ρ' elt).bind fun d => if acc.length ≤ 1048576 then some (acc ++ [d]) else none) gs g ds (freeOf scope ρ) []).bind fun acc => some (.list acc)
  else none:=rfl
theorem flat_one {α : Type} (f : α → PyData) (l : List α) : l.flatMap (fun x => [f x]) = l.map f:=by
 induction l with
 | nil => rfl
 | cons a l ih => rw [List.flatMap_cons,ih];rfl
theorem bind_own {scope : Scope} {t : Expr} {y : Str} (hn : nameOf t = some y) (ho : isOwn (scope.names.lookup y) = true) (d : PyData) (ρ : Vars) : bindT scope.names t d ρ = some (setV ρ y d):=by
 unfold bindT
 rw [hn]
 exact if_pos ho
theorem unb_own {t : Expr} {y : Str} (hn : nameOf t = some y) {ρ : Vars} (h : ρ.lookup y = none) : (namesT t).all (fun x => (ρ.lookup x).isNone) = true:=by
 unfold namesT
 rw [hn]
 show ((ρ.lookup y).isNone && true) = true
 rw [h];rfl
noncomputable def okC (sc : Names) (E : Expr) (y : Str) : Bool:=okScope sc (cvS E) && (nameOf (cvT 0 E) == some y) && isOwn ((cvS E).names.lookup y) && !isSet (cvI 0 E)
theorem okC_inv {sc : Names} {E : Expr} {y : Str} (h : okC sc E y = true) : okScope sc (cvS E) = true ∧ nameOf (cvT 0 E) = some y ∧ isOwn ((cvS E).names.lookup y) = true ∧ isSet (cvI 0 E) = false:=by
 unfold okC at h
 rw [Bool.and_eq_true,Bool.and_eq_true,Bool.and_eq_true,beq_iff_eq,Bool.not_eq_true'] at h
 exact ⟨h.1.1.1,h.1.1.2,h.1.2,h.2⟩
section
variable {T : Tab} {n : Nat} {sc : Names} {ρ : Vars} {E : Expr} {α β : Type} {xs : List α}
theorem ex_comp {elt : Expr} {g : Comprehension} {gs : List Comprehension} {scope : Scope} (hE : ∃ q,E = .ListComp elt (g :: gs) scope q) : (evs T (n + 1)).ex sc ρ E = compE (evs T n) sc ρ E:=by
 obtain ⟨q,rfl⟩:=hE
 rfl
theorem compNr {r : Evs} (y : Str) (e : α → PyData) (p : α → Bool) (f : α → PyData) (hE : ∃ q,E = .ListComp (cvE E) [⟨cvT 0 E,cvI 0 E,cvF 0 E,0⟩] (cvS E) q) (hok : okC sc E y = true) (hit : iterE r sc ρ (cvI 0 E) = some (xs.map e)) (hl : xs.length ≤ 1000000)
  (h : ∀ x ∈ xs,testsE r (cvS E).names (setV (freeOf (cvS E) ρ) y (e x)) (cvF 0 E) = some (p x) ∧ (p x = true → r.ex (cvS E).names (setV (freeOf (cvS E) ρ) y (e x)) (cvE E) = some (f x))) : compE r sc ρ E = some (.list ((xs.filter p).map f)):=by
 obtain ⟨hs,hn,ho,hi⟩:=okC_inv hok
 obtain ⟨q,hE⟩:=hE
 generalize cvE E = elt at *
 generalize cvT 0 E = t at *
 generalize cvI 0 E = it at *
 generalize cvF 0 E = ifs at *
 generalize cvS E = scope at *
 subst hE
 rw [c_list,if_pos ⟨hs,by rw [List.all_cons,hi,hn];cases r.still <;> rfl⟩,hit,Option.bind_some]
 unfold compGo
 have k:=clauseM (r:=r) (ρ:=freeOf scope ρ) (inner:=fun ρ' acc => (r.ex scope.names ρ' elt).bind fun d => if acc.length ≤ 1048576 then some (acc ++ [d]) else none) (p:=p) (g:=fun x => [f x]) e xs [] (fun x hx => ⟨_,bind_own hn ho (e x) _,(h x hx).1,fun hp acc ha => by
  rw [(h x hx).2 hp,Option.bind_some,if_pos (Nat.le_trans (Nat.le_trans (Nat.le_add_right _ _) ha) (by decide))]⟩) (by
  rw [flat_one,List.length_map]
  exact Nat.le_trans (Nat.le_of_eq (Nat.zero_add _)) (Nat.le_trans (List.length_filter_le _ _) hl))
 rw [if_pos ⟨unb_own hn (freeOf_none ho ρ),rfl⟩,k,flat_one]
 rfl
theorem compN (y : Str) (e : α → PyData) (p : α → Bool) (f : α → PyData) (hE : ∃ q,E = .ListComp (cvE E) [⟨cvT 0 E,cvI 0 E,cvF 0 E,0⟩] (cvS E) q) (hok : okC sc E y = true) (hit : iterE (evs T n) sc ρ (cvI 0 E) = some (xs.map e)) (hl : xs.length ≤ 1000000)
  (h : ∀ x ∈ xs,testsE (evs T n) (cvS E).names (setV (freeOf (cvS E) ρ) y (e x)) (cvF 0 E) = some (p x) ∧ (p x = true → (evs T n).ex (cvS E).names (setV (freeOf (cvS E) ρ) y (e x)) (cvE E) = some (f x))) : (evs T (n + 1)).ex sc ρ E = some (.list ((xs.filter p).map f)) :=
 (ex_comp hE).trans (compNr y e p f hE hok hit hl h)
theorem compA (y : Str) (e : α → PyData) (f : α → PyData) (hE : ∃ q,E = .ListComp (cvE E) [⟨cvT 0 E,cvI 0 E,cvF 0 E,0⟩] (cvS E) q) (hok : okC sc E y = true) (h0 : cvF 0 E = []) (hit : iterE (evs T n) sc ρ (cvI 0 E) = some (xs.map e)) (hl : xs.length ≤ 1000000)
  (h : ∀ x ∈ xs,(evs T n).ex (cvS E).names (setV (freeOf (cvS E) ρ) y (e x)) (cvE E) = some (f x)) : (evs T (n + 1)).ex sc ρ E = some (.list (xs.map f)) :=
 (compN y e (fun ζ => true) f hE hok hit hl fun x hx => ⟨by rw [h0];rfl,fun ζ => h x hx⟩).trans (by rw [List.filter_eq_self.mpr fun ζ ζ => rfl])
theorem compNNr {r : Evs} (y y2 : Str) (e : α → PyData) (p : α → Bool) (g : α → List β) (e2 : β → PyData) (p2 : α → β → Bool) (f : α → β → PyData) (hE : ∃ q,E = .ListComp (cvE E) [⟨cvT 0 E,cvI 0 E,cvF 0 E,0⟩,⟨cvT 1 E,cvI 1 E,cvF 1 E,0⟩] (cvS E) q) (hok : okC sc E y = true)
  (h2 : nameOf (cvT 1 E) = some y2 ∧ isOwn ((cvS E).names.lookup y2) = true ∧ isSet (cvI 1 E) = false ∧ y ≠ y2)
  (hit : iterE r sc ρ (cvI 0 E) = some (xs.map e)) (hl : ((xs.filter p).flatMap fun x => ((g x).filter (p2 x)).map (f x)).length ≤ 1000000)
  (h : ∀ x ∈ xs,testsE r (cvS E).names (setV (freeOf (cvS E) ρ) y (e x)) (cvF 0 E) = some (p x) ∧ (p x = true → iterE r (cvS E).names (setV (freeOf (cvS E) ρ) y (e x)) (cvI 1 E) = some ((g x).map e2) ∧
   ∀ z ∈ g x,testsE r (cvS E).names (setV (setV (freeOf (cvS E) ρ) y (e x)) y2 (e2 z)) (cvF 1 E) = some (p2 x z) ∧ (p2 x z = true → r.ex (cvS E).names (setV (setV (freeOf (cvS E) ρ) y (e x)) y2 (e2 z)) (cvE E) = some (f x z)))) :
  compE r sc ρ E = some (.list ((xs.filter p).flatMap fun x => ((g x).filter (p2 x)).map (f x))):=by
 obtain ⟨hs,hn,ho,hi⟩:=okC_inv hok
 obtain ⟨hn2,ho2,hi2,hy⟩:=h2
 obtain ⟨q,hE⟩:=hE
 generalize cvE E = elt at *
 generalize cvT 0 E = t at *
 generalize cvI 0 E = it at *
 generalize cvF 0 E = ifs at *
 generalize cvT 1 E = t2 at *
 generalize cvI 1 E = it2 at *
 generalize cvF 1 E = ifs2 at *
 generalize cvS E = scope at *
 subst hE
 rw [c_list,if_pos ⟨hs,by rw [List.all_cons,List.all_cons,hi,hi2,hn,hn2];cases r.still <;> rfl⟩,hit,Option.bind_some]
 unfold compGo
 have k:=clauseM (r:=r) (ρ:=freeOf scope ρ) (inner:=fun ρ' acc => (iterE r scope.names ρ' it2).bind fun ds => compGo r scope.names (fun ρ' (acc : List PyData) => (r.ex scope.names ρ' elt).bind fun d => if acc.length ≤ 1048576 then some (acc ++ [d]) else none) [] ⟨t2,it2,ifs2,0⟩ ds ρ' acc) (p:=p) (g:=fun x => ((g x).filter (p2 x)).map (f x)) e xs [] (fun x hx => ⟨_,bind_own hn ho (e x) _,(h x hx).1,fun hp acc ha => by
  obtain ⟨q1,q3⟩:=(h x hx).2 hp
  rw [q1,Option.bind_some]
  unfold compGo
  have k:=clauseM (r:=r) (ρ:=setV (freeOf scope ρ) y (e x)) (inner:=fun ρ' acc => (r.ex scope.names ρ' elt).bind fun d => if acc.length ≤ 1048576 then some (acc ++ [d]) else none) (p:=p2 x) (g:=fun z => [f x z]) e2 (g x) acc (fun z hz => ⟨_,bind_own hn2 ho2 (e2 z) _,(q3 z hz).1,fun hp acc ha => by
   rw [(q3 z hz).2 hp,Option.bind_some,if_pos (Nat.le_trans (Nat.le_trans (Nat.le_add_right _ _) ha) (by decide))]⟩) (by rw [flat_one];exact ha)
  rw [if_pos ⟨unb_own hn2 ((setV_lookup ..).trans ((if_neg (Ne.symm hy)).trans (freeOf_none ho2 ρ))),rfl⟩,k,flat_one]⟩) ((Nat.zero_add _).symm ▸ hl)
 rw [if_pos ⟨unb_own hn (freeOf_none ho ρ),rfl⟩,k]
 rfl
theorem compNN (y y2 : Str) (e : α → PyData) (p : α → Bool) (g : α → List β) (e2 : β → PyData) (p2 : α → β → Bool) (f : α → β → PyData) (hE : ∃ q,E = .ListComp (cvE E) [⟨cvT 0 E,cvI 0 E,cvF 0 E,0⟩,⟨cvT 1 E,cvI 1 E,cvF 1 E,0⟩] (cvS E) q) (hok : okC sc E y = true)
  (h2 : nameOf (cvT 1 E) = some y2 ∧ isOwn ((cvS E).names.lookup y2) = true ∧ isSet (cvI 1 E) = false ∧ y ≠ y2)
  (hit : iterE (evs T n) sc ρ (cvI 0 E) = some (xs.map e)) (hl : ((xs.filter p).flatMap fun x => ((g x).filter (p2 x)).map (f x)).length ≤ 1000000)
  (h : ∀ x ∈ xs,testsE (evs T n) (cvS E).names (setV (freeOf (cvS E) ρ) y (e x)) (cvF 0 E) = some (p x) ∧ (p x = true → iterE (evs T n) (cvS E).names (setV (freeOf (cvS E) ρ) y (e x)) (cvI 1 E) = some ((g x).map e2) ∧
   ∀ z ∈ g x,testsE (evs T n) (cvS E).names (setV (setV (freeOf (cvS E) ρ) y (e x)) y2 (e2 z)) (cvF 1 E) = some (p2 x z) ∧ (p2 x z = true → (evs T n).ex (cvS E).names (setV (setV (freeOf (cvS E) ρ) y (e x)) y2 (e2 z)) (cvE E) = some (f x z)))) :
  (evs T (n + 1)).ex sc ρ E = some (.list ((xs.filter p).flatMap fun x => ((g x).filter (p2 x)).map (f x))) :=
 (ex_comp hE).trans (compNNr y y2 e p g e2 p2 f hE hok h2 hit hl h)
end
theorem tests_one {r : Evs} {sc : Names} {ρ : Vars} {e : Expr} {b : Bool} (h : r.tr sc ρ e = some b) : testsE r sc ρ [e] = some b:=by
 show (r.tr sc ρ e).bind _ = _
 rw [h]
 cases b <;> rfl
end
section
noncomputable def Lay (k : Nat) (d : PyData) : Prop:=d.canLay0 = true ∧ d.depth ≤ k
theorem lay_int (i : Int) : Lay 0 (.int i):=⟨rfl,Nat.le_refl 0⟩
theorem lay_str {x : Str} (h : PyData.strOk x = true) : Lay 0 (.str x):=⟨h,Nat.le_refl 0⟩
theorem lay_all {k : Nat} : ∀ {xs : List PyData},(∀ x ∈ xs,Lay k x) → PyData.canLayAll0 xs = true ∧ PyData.depthAll xs ≤ k
 | [],_ => ⟨rfl,Nat.zero_le k⟩
 | x :: xs,h =>
  have hx:=h x List.mem_cons_self
  have ih:=lay_all fun y hy => h y (List.mem_cons_of_mem x hy)
  ⟨Bool.and_eq_true_iff.mpr ⟨hx.1,ih.1⟩,Nat.max_le.mpr ⟨hx.2,ih.2⟩⟩
theorem lay_list {k : Nat} {xs : List PyData} (h : ∀ x ∈ xs,Lay k x) : Lay (k + 1) (.list xs):=⟨(lay_all h).1,Nat.succ_le_succ (lay_all h).2⟩
theorem lay_tuple {k : Nat} {xs : List PyData} (h : ∀ x ∈ xs,Lay k x) : Lay (k + 1) (.tuple xs):=⟨(lay_all h).1,Nat.succ_le_succ (lay_all h).2⟩
theorem lay_map {α : Type} {k : Nat} {f : α → PyData} {l : List α} (h : ∀ x ∈ l,Lay k (f x)) : Lay (k + 1) (.list (l.map f)):=lay_list fun d hd => by
 obtain ⟨x,hx,rfl⟩:=lMp hd
 exact h x hx
theorem Lay.shaped {k : Nat} {d : PyData} (h : Lay k d) (q : k ≤ 64) : SeqAt.shaped d = true:=Bool.and_eq_true_iff.mpr ⟨h.1,decide_eq_true (Nat.le_trans h.2 q)⟩
theorem eq_self {k : Nat} {d : PyData} (h : Lay k d) (q : k ≤ 64) : cmpop .Eq d d = some true:=by
 have e : ∀ a : Option Bool,(a = none ∨ a = some true) → orD a (if SeqAt.shaped d = true ∧ SeqAt.shaped d = true then some (PyData.eqv d d) else none) = some true:=fun a ha => by
  rcases ha with rfl | rfl
  ·rw [if_pos ⟨h.shaped q,h.shaped q⟩,SeqAt.eqv_refl d h.1];rfl
  ·rfl
 refine e _ ?_
 cases d with
 | str x => exact .inr (congrArg some (beq_iff_eq.mpr rfl))
 | _ => exact .inl rfl
theorem ne_self {k : Nat} {d : PyData} (h : Lay k d) (q : k ≤ 64) : cmpop .NotEq d d = some false:=congrArg (Option.map (!·)) (eq_self h q)
theorem in_map {α : Type} [BEq α] [LawfulBEq α] {f : α → PyData} {l : List α} {c : α} {k : Nat} (hk : k ≤ 60) (hc : Lay k (f c)) (hl : ∀ x ∈ l,Lay k (f x)) (hf : ∀ x ∈ l,PyData.eqv (f x) (f c) = true ↔ x = c) : cmpop .In (f c) (.list (l.map f)) = some (l.contains c):=by
 rw [co_inl ⟨hc.shaped (Nat.le_trans hk (by decide)),(lay_map hl).shaped (Nat.le_trans (Nat.succ_le_succ hk) (by decide))⟩,List.any_map]
 refine congrArg some (Bool.eq_iff_iff.mpr ?_)
 rw [List.any_eq_true,List.contains_iff_mem]
 exact ⟨fun ⟨x,hx,e⟩ => (hf x hx).mp e ▸ hx,fun h => ⟨c,h,(hf c h).mpr rfl⟩⟩
noncomputable def natD (k : Nat) : PyData:=.int (k : Int)
noncomputable def rowD (r : List Nat) : PyData:=.list (r.map natD)
noncomputable def pairN (p : Nat × Nat) : PyData:=.tuple [natD p.1,natD p.2]
theorem in_strs {c : Str} {l : List Str} (hc : PyData.strOk c = true) (hl : ∀ x ∈ l,PyData.strOk x = true) : cmpop .In (.str c) (.list (l.map PyData.str)) = some (l.contains c):=in_map (k:=0) (by decide) (lay_str hc) (fun x hx => lay_str (hl x hx)) fun x ζ => beq_iff_eq (a:=x)
theorem notin_strs {c : Str} {l : List Str} (hc : PyData.strOk c = true) (hl : ∀ x ∈ l,PyData.strOk x = true) : cmpop .NotIn (.str c) (.list (l.map PyData.str)) = some (!l.contains c):=congrArg (Option.map (!·)) (in_strs hc hl)
theorem fdivN (n c : Nat) : (n : Int).fdiv (c : Int) = ((n / c : Nat) : Int):=Int.fdiv_eq_ediv_of_nonneg _ (Int.natCast_nonneg c)
theorem fmodN (n c : Nat) : (n : Int).fmod (c : Int) = ((n % c : Nat) : Int):=Int.fmod_eq_emod_of_nonneg _ (Int.natCast_nonneg c)
end
section
open PySem.StrLaws PySem.Builtin.Str
noncomputable abbrev Lc (x : Str) : List Nat:=x.cps.toList
noncomputable abbrev Sc (l : List Nat) : Str:=⟨l.toArray⟩
theorem Sc_Lc (x : Str) : Sc (Lc x) = x:=by obtain ⟨⟨l⟩⟩:=x;rfl
theorem Lc_inj {x y : Str} (h : Lc x = Lc y) : x = y:=by rw [← Sc_Lc x,← Sc_Lc y,h]
theorem Lc_append (x y : Str) : Lc (x ++ y) = Lc x ++ Lc y:=by show (x.cps ++ y.cps).toList = _;simp
theorem len_Lc (x : Str) : x.length = (Lc x).length:=by simp [Str.length]
theorem Lc_ofString (s : String) : Lc (Str.ofString s) = s.toList.map Char.toNat:=by rw [Str.ofString_eq_toList]
theorem slice_list (x : Str) (a b : Nat) (hab : a ≤ b) (hb : b ≤ (Lc x).length) : Txt.slice x (some (a : Int)) (some (b : Int)) = Sc (((Lc x).drop a).take (b - a)):=by
 have:=sliceText_plain (x:=x) (i:=(a : Int)) (j:=(b : Int)) ⟨by omega,by omega,by simpa using hb⟩
 have h2 : Txt.slice x (some (a : Int)) (some (b : Int)) = _:=this
 rw [h2]
 simp
theorem slice_to (x : Str) (b : Nat) (hb : b ≤ (Lc x).length) : Txt.slice x none (some (b : Int)) = Sc ((Lc x).take b):=by
 have h2 : Txt.slice x none (some (b : Int)) = _:=sliceText_to (x:=x) (j:=(b : Int)) ⟨by omega,by simpa using hb⟩
 rw [h2];simp
theorem item_list (x : Str) (k : Nat) (c : Nat) (h : (Lc x)[k]? = some c) : Txt.item x (k : Int) = Sc [c]:=by
 have h2 : x.cps[k]? = some c:=by simpa using h
 unfold Txt.item Txt.charAt
 rw [at_nonneg (by omega) (show x.cps[(k : Int).toNat]? = some c by simpa using h2)]
 rfl
theorem at_one (x : Str) (c k : Nat) : At x (Sc [c]) x.length k ↔ (Lc x)[k]? = some c:=subAt_one x c k
theorem find_at (x : Str) (c k : Nat) (h : (Lc x)[k]? = some c) (hn : ∀ j,j < k → (Lc x)[j]? ≠ some c) : Txt.find x (Sc [c]) = (k : Int):=by
 unfold Txt.find
 rcases occ_head x (Sc [c]) 1 (Nat.le_refl 1) with ⟨h0,hno⟩ | ⟨i,r,h0,hi,hno⟩
 ·exact absurd ((at_one x c k).mpr h) (hno k)
 ·rw [h0]
  have h1:=(at_one x c i).mp hi
  have : i = k:=by
   rcases Nat.lt_trichotomy i k with q | q | q
   ·exact absurd h1 (hn i q)
   ·exact q
   ·exact absurd ((at_one x c k).mpr h) (hno k q)
  rw [this]
theorem find3_at (x : Str) (c k : Nat) (i : Nat) (hi : i ≤ k) (h : (Lc x)[k]? = some c) (hn : ∀ j,i ≤ j → j < k → (Lc x)[j]? ≠ some c) : Txt.find3 x (Sc [c]) (i : Int) = (k : Int):=by
 have hk : k < x.length:=by rw [len_Lc];exact (List.getElem?_eq_some_iff.mp h).1
 have hf : fromIndex x.length (i : Int) = i:=by
  unfold fromIndex
  rw [if_neg (by omega)]
  omega
 rcases find3_spec x c (i : Int) with ⟨_,hno⟩ | ⟨j,h0,h1,h2,h3,hno⟩
 ·rw [hf] at hno
  exact absurd (getD_of_getElem? h) (hno k hi hk)
 ·rw [hf] at h1 hno
  have hj:=getElem?_of_getD h2 h3
  have : j = k:=by
   rcases Nat.lt_trichotomy j k with q | q | q
   ·exact absurd hj (hn j h1 q)
   ·exact q
   ·exact absurd (getD_of_getElem? h) (hno k hi q)
  rw [h0,this]
noncomputable def glueL (c : Nat) : List (List Nat) → List Nat
 | [] => []
 | [p] => p
 | p :: q :: r => p ++ c :: glueL c (q :: r)
theorem cut_inj (c : Nat) : ∀ (p q a b : List Nat),c ∉ p → c ∉ q → p ++ c :: a = q ++ c :: b → p = q ∧ a = b
 | [],[],a,b,_,_,e => by simp only [List.nil_append,List.cons.injEq,true_and] at e;exact ⟨rfl,e⟩
 | [],y :: q,a,b,_,hq,e => by simp only [List.nil_append,List.cons_append,List.cons.injEq] at e;exact absurd (e.1 ▸ List.mem_cons_self) hq
 | x :: p,[],a,b,hp,_,e => by simp only [List.nil_append,List.cons_append,List.cons.injEq] at e;exact absurd (e.1 ▸ List.mem_cons_self) hp
 | x :: p,y :: q,a,b,hp,hq,e => by
  simp only [List.cons_append,List.cons.injEq] at e
  obtain ⟨e1,e2⟩:=cut_inj c p q a b (fun z => hp (List.mem_cons_of_mem _ z)) (fun z => hq (List.mem_cons_of_mem _ z)) e.2
  exact ⟨by rw [e.1,e1],e2⟩
theorem glue_inj (c : Nat) : ∀ (ps qs : List (List Nat)),ps ≠ [] → qs ≠ [] → (∀ p ∈ ps,c ∉ p) → (∀ q ∈ qs,c ∉ q) → glueL c ps = glueL c qs → ps = qs
 | [],_,h,_,_,_,_ => absurd rfl h
 | _,[],_,h,_,_,_ => absurd rfl h
 | [p],[q],_,_,_,_,e => by simp only [glueL] at e;rw [e]
 | [p],q :: q' :: r,_,_,h1,_,e => by
  simp only [glueL] at e
  exact absurd (e ▸ (by simp : c ∈ q ++ c :: glueL c (q' :: r))) (h1 p List.mem_cons_self)
 | p :: p' :: r,[q],_,_,_,h2,e => by
  simp only [glueL] at e
  exact absurd (e ▸ (by simp : c ∈ p ++ c :: glueL c (p' :: r))) (h2 q List.mem_cons_self)
 | p :: p' :: r,q :: q' :: r',_,_,h1,h2,e => by
  simp only [glueL] at e
  have key:=cut_inj c p q _ _ (h1 p List.mem_cons_self) (h2 q List.mem_cons_self) e
  rw [key.1,glue_inj c (p' :: r) (q' :: r') (by simp) (by simp) (fun x hx => h1 x (List.mem_cons_of_mem _ hx)) (fun x hx => h2 x (List.mem_cons_of_mem _ hx)) key.2]
theorem Lc_join (c : Nat) : ∀ ps : List Str,Lc (Str.join (Sc [c]) ps) = glueL c (ps.map Lc)
 | [] => rfl
 | [p] => rfl
 | p :: q :: r => by
  have ih:=Lc_join c (q :: r)
  rw [List.map_cons,List.map_cons,glueL,← List.map_cons,← ih]
  show Lc (p ++ Sc [c] ++ Str.join (Sc [c]) (q :: r)) = _
  rw [Lc_append,Lc_append,show Lc (Sc [c]) = [c] from rfl,List.append_assoc]
  rfl
theorem split_ne (x y : Str) : Txt.split x y ≠ []:=by
 unfold Txt.split
 split
 ·simp
 ·split
  ·simp
  ·rw [partsBetween_eq]
   obtain ⟨p,r,e⟩:=partsFrom_ne x y.length 0 (occurrences x y 0 x.length (x.length + 1))
   rw [e];simp
theorem split_parts (c : Nat) (ps : List (List Nat)) (hne : ps ≠ []) (hp : ∀ p ∈ ps,c ∉ p) {x : Str} (hx : Lc x = glueL c ps) : Txt.split x (Sc [c]) = ps.map Sc:=by
 have h1:=join_split x (Sc [c])
 have h2 : glueL c ((Txt.split x (Sc [c])).map Lc) = glueL c ps:=by rw [← Lc_join,h1,hx]
 have h3:=glue_inj c _ _ (by simpa using split_ne x (Sc [c])) hne (fun p hp => by
  obtain ⟨q,hq,rfl⟩:=lMp hp
  exact split_free x c q hq) hp h2
 have h4:=congrArg (List.map Sc) h3
 rw [List.map_map] at h4
 rw [← h4]
 conv => lhs;rw [← List.map_id (Txt.split x (Sc [c]))]
 apply List.map_congr_left
 intro a _
 exact (Sc_Lc a).symm
end
section
variable [bs : Base]
section
variable {prog : Program} {w : World} {hb : Heap} {sc : Names} {hF : Heap} {O : Addr → Prop} {h h' : Heap} {env : Env} {ρ : Vars}
variable {A : Around} {E : Value → Shared → Prop} {s : Shared}
theorem FrI.outside {J : Addr → Prop} (F : FrI prog w sc hF O h env ρ) (hs : ∀ x d,ρ.lookup x = some d → scalar d = true) (k : KeepBut J h h') (nS : ∀ b,J b → ¬ Sl env b) (hJ : ∀ b,J b → hF.get? b = none) (he : ∀ b,J b → O b → ∃ o,h'.get? b = some o) : FrI prog w sc hF O h' env ρ :=
 F.go (fun a o z e => k a o (fun q => nS a q z) e) (fun ζ z => F.slot z) (fun x ζ d e r => rep_scalar (hs x d e) r)
  (fun b o eb => let ⟨o',eo,al⟩:=F.keep b o eb;let ⟨o'',eo',al'⟩:=k b o' (fun q => nomatch (hJ b q).symm.trans eb) eo;⟨o'',eo',al.trans al'⟩)
  fun a z => by
   by_cases q : J a
   ·exact he a q z
   ·obtain ⟨o,ho⟩:=F.old a z
    obtain ⟨o',ho',_⟩:=k a o q ho
    exact ⟨o',ho'⟩
theorem Fx.outside {J : Addr → Prop} (F : Fx prog w hb sc hF O h env ρ) (hs : ∀ x d,ρ.lookup x = some d → scalar d = true) (k : KeepBut J h h') (nS : ∀ b,J b → ¬ Sl env b) (hJ : ∀ b,J b → hF.get? b = none) (he : ∀ b,J b → O b → ∃ o,h'.get? b = some o) : Fx prog w hb sc hF O h' env ρ :=
 ⟨F.F.outside hs k nS hJ he,F.kb,F.onew⟩
theorem VarIs.off {J : Addr → Prop} {x : Str} {v : Value} (q : VarIs h env sc x v) {m : Str → Option Value} (hn : h.Ns env.locals m) (k : KeepBut J h h') (nS : ∀ b,J b → ¬ Sl env b) : VarIs h' env sc x v :=
 (Kept.of_offJ (sc:=sc) hn k nS).vk x v (by simp) q
theorem Stk.off {C : Addr → Prop} (K : Stk hb A h) (F : FrI prog w sc hF O h env ρ) (k : KeepBut C h h') (lc : LocCls env h h') (hC : ∀ a,C a → Sl env a ∨ ∀ o,h.get? a = some o → o.cls ≠ .type "frame") : Stk hb A h':=by
 refine K.chg k fun a z o es₀ ep₀ ho hc hdt => ?_
 rcases hC a z with hs | hs
 ·rcases hs with rfl | ⟨x,hx⟩
  ·obtain ⟨o',es,ep,e',c',d'⟩:=lc o ho
   exact ⟨o',e',c'.trans hc,es,ep,d'⟩
  ·obtain ⟨ov,o₂,ho₂,hd₂⟩:=F.allc x a hx
   cases ho.symm.trans ho₂
   cases hdt.symm.trans hd₂
 ·exact absurd hc (hs o ho)
theorem Fx.ns (F : Fx prog w hb sc hF O h env ρ) : ∃ m,h.Ns env.locals m:=let ⟨m,hn,_⟩:=F.F.ns;⟨m,hn⟩
theorem PL.uniq {a : Addr} {vs us : List Value} (x : PL h a vs) (y : PL h a us) : vs = us:=by
 obtain ⟨n,e⟩:=x
 obtain ⟨m,e'⟩:=y
 rw [e] at e'
 injection e' with e'
 injection e' with _ _ e' _
 injection e' with e'
 simpa using e'
theorem filterComp_rule {x y : Str} {px p1 p2 py spos pos : Pos} {iter : Expr} {scope : Scope} {S : Addr} {vs : List Value} {Q : Flow → Shared → Prop} (hh : A.handled = none) (F : FrI prog w sc hF O s.heap env [])
  (hsw : swapsWith (.ListComp (.Name x p1) [⟨.Name x px,iter,[.Name x p2],0⟩] scope pos) (some (.Name y py)) spos.line env = pure true)
  (hfree : ∀ z ∈ scope.names,z.2 ≠ .free) (hcell : ∀ z ∈ scope.names,z.2 ≠ .cell) (hkind : scope.kind = .function)
  (hnames : ∀ z ∈ scope.names,z.2 = .local → scope.names.lookup z.1 = some .local) (hx : scope.names.lookup x = some .local) (hdb : (x == (Str.ofString "__debug__")) = false)
  (hy : sc.lookup y = some .local) (hs : ∀ x,foldedSetIterable iter env x = pure x)
  (hit : ∀ (Q : Value → Shared → Prop),Q (.ref S) s → wpAny (model prog w) A (eval iter env) Q E s) (hS : PL s.heap S vs) (hlen : vs.length ≤ 1048576) (p : Value → Bool)
  (htr : ∀ v ∈ vs,∃ a us,v = .ref a ∧ PL s.heap a us ∧ us.length ≤ 1048576 ∧ p v = !us.isEmpty)
  (hQ : ∀ D h' tk,s.heap.get? D = none → PL h' D (vs.filter p) → FrI prog w sc hF O h' env [] → KeepBut (OwnS hF O env) s.heap h' → Kept env sc [y] s.heap h' → VarIs h' env sc y (.ref D) → Q .next { s with heap:=h',toks:=tk }) :
  wpAny (model prog w) A (exec (.Assign [.Name y py] (.ListComp (.Name x p1) [⟨.Name x px,iter,[.Name x p2],0⟩] scope pos) spos) env) Q E s:=by
 have hck : ∀ C,(compEnv scope C env).scope.kind = .function:=fun C => hkind
 have hcx : ∀ C,(compEnv scope C env).kindOf x = some .local:=fun C => hx
 rw [exec_Assign_Name_used _ _ _ _ hsw]
 refine wpAny_bind (wpAny_standAt (wpAny_bind ?_))
 show wpAny _ A (do let _ ← comprehension (.ListComp (.Name x p1) [⟨.Name x px,iter,[.Name x p2],0⟩] scope pos) scope env _ (newList []) false (eval iter env) (some (assign (.Name y py) env))) _ _ s
 refine wpAny_bind (wpAny_mono (wpAny_comprehension_use (Q:=fun ζ s' => Q .next s') rfl hs hfree hkind hnames (hit _ ?_)) (fun ζ s' hq => wpAny_pure (wpAny_pure hq)) fun ζ ζ e => e)
 refine wpAny_pyIter_list hS.isList ?_
 have hne : S ≠ s.heap.objs.size:=by obtain ⟨_,ho⟩:=hS;exact Nat.ne_of_lt (Heap.lt_size ho)
 have k1 : Keep s.heap (s.heap.push { cls:=.type "list_iterator",data:=.fields #[.ref S,.int 0 0] }):=Keep.push _ _
 have hI:=Heap.get?_push_size s.heap (o:={ cls:=.type "list_iterator",data:=.fields #[.ref S,.int 0 0] }) rfl
 have hIn:=fresh_size s.heap
 generalize s.heap.push { cls:=.type "list_iterator",data:=.fields #[.ref S,.int 0 0] } = h₁ at k1 hI ⊢
 generalize s.heap.objs.size = I at hne hI hIn ⊢
 have hS₁:=hS.keepK k1
 have evx : ∀ C (s₃ : Shared) (m₃ : Str → Option Value) (v : Value) (pp : Pos) (E' : Value → Shared → Prop) (Q' : Value → Shared → Prop),s₃.heap.Ns C m₃ → m₃ x = some v → Q' v s₃ → wpAny (model prog w) A (eval (.Name x pp) (compEnv scope C env)) Q' E' s₃ :=
  fun C s₃ m₃ v pp E' Q' hn hm hq => wpAny_Name (wpAny_loadName_local (hck C) (hcx C) hn hm hq) hdb
 refine comp_block_walk (s₂:={ s with heap:=h₁ }) (RR:=fun acc cenv r s' => match r with
   | .ok _ => wpAny (model prog w) A (assign (.Name y py) env acc) (fun ζ s'' => ∃ m,s''.heap.Ns cenv.locals m ∧ ∀ h',Heap.SameBut cenv.locals s''.heap h' → Q .next { s'' with heap:=h' }) E s'
   | .error x => ∃ m,s'.heap.Ns cenv.locals m ∧ ∀ h',Heap.SameBut cenv.locals s'.heap h' → wpAny (model prog w) A (passOn "comprehension.variables-let-go" x cenv) (fun ζ s' => Q .next s') E { s' with heap:=h' })
  (Walks.list hh I S hne vs.toArray) (by rw [sizeLine_eq];simp;omega) p (fun a b => b = a) hcell hkind hx ⟨⟨_,hI,rfl,rfl⟩,hS₁.isList⟩ ?_ ⟨fun C i v s₃ m₃ E' hP hn hm hk htk => ?_,fun C i v s₃ m₃ E' hP hpv hn hm hk htk => evx C s₃ m₃ v _ _ _ hn hm ⟨rfl,s₃.heap,s₃.toks,rfl,fun ζ ζ e => e⟩⟩ ?_
 ·intro b hb
  rcases cMp hb with rfl | hb
  ·exact Heap.lt_size hI
  ·have : b = S:=by simpa using hb
   subst this;obtain ⟨_,ho⟩:=hS₁;exact Heap.lt_size ho
 ·obtain ⟨a,us,rfl,pl,hul,hpv⟩:=htr v (by
   have h1 : vs.toArray[i]? = some v:=hP
   have h2 : vs[i]? = some v:=by simpa using h1
   exact List.mem_of_getElem? h2)
  have pl₃ : PL s₃.heap a us:=by
   obtain ⟨n,ho⟩:=pl.keepK k1
   refine ⟨n,hk a _ ?_ ho⟩
   intro hm
   have : a = I:=by simpa using hm
   subst this;rw [hI] at ho;simp at ho
  rw [List.forIn_cons]
  simp only [if_true]
  refine wpAny_bind (wpAny_bind ?_)
  refine isTrue_plain (evx C s₃ m₃ _ _ _ _ hn hm (wpAny_truthy_list pl₃.isList (by simp;omega) ?_)) rfl
  refine wpAny_pure ?_
  show wpAny _ _ (forIn [] _ _) _ _ _
  rw [List.forIn_nil]
  refine wpAny_pure ⟨?_,s₃.heap,_,rfl,fun ζ ζ e => e⟩
  rw [hpv]
  cases us <;> rfl
 ·intro D C h' tk m' ys us hD hC hDC hnC hlD hplD hlen' hP hF' hk
  have kk : Keep s.heap h':=fun b o eb => by
   obtain ⟨o',e',al⟩:=k1 b o eb
   refine ⟨o',hk b o' (fun hm => ?_) e',al⟩
   have : b = I:=by simpa using hm
   subst this;rw [hIn] at eb;cases eb
  have hus : us = vs:=by
   refine List.ext_getElem? fun j => ?_
   cases hj : us[j]? with
   | some v =>
    have h1 : vs.toArray[j]? = some v:=hP j v hj
    have h2 : vs[j]? = some v:=by simpa using h1
    exact h2.symm
   | none =>
    have : us.length ≤ j:=by simpa using hj
    have hl : us.length = vs.length:=by simpa using hlen'
    symm
    rw [List.getElem?_eq_none_iff];omega
  have hpair : ∀ {a b : List Value},Paired (fun a b => b = a) a b → b = a:=by
   intro a b hp
   induction hp with
   | nil => rfl
   | cons e _ ih => rw [e,ih]
  have hys : ys.toList = vs.filter p:=by rw [← hus];exact hpair hF'
  have plD : PL h' D (vs.filter p):=by
   obtain ⟨n,e⟩:=hplD
   exact ⟨n,by rw [e,← hys]⟩
  have hDn : s.heap.get? D = none:=k1.none hD
  have hCn : s.heap.get? C = none:=k1.none hC
  have slotAt : ∀ b,Sl env b → ∃ o,s.heap.get? b = some o:=fun b z => by
   rcases z with rfl | ⟨x,hx⟩
   ·obtain ⟨m,⟨o,_,_,ho,_⟩,_⟩:=F.ns;exact ⟨o,ho⟩
   ·exact F.old b (F.ocell x b hx).1
  have nSC : ¬ Sl env C:=fun z => by obtain ⟨o,ho⟩:=slotAt C z;rw [hCn] at ho;cases ho
  have nSD : ¬ Sl env D:=fun z => by obtain ⟨o,ho⟩:=slotAt D z;rw [hDn] at ho;cases ho
  obtain ⟨mL,hnL,_⟩:=F.ns
  refine wpAny_assign_Name ((F.keeps kk).storeV (s:={ s with heap:=h',toks:=tk }) (v:=.ref D) (.inl hy) rfl fun h₂ tk₂ F₂ kO kp vi => ?_)
  refine ⟨m',ns_alike hnC fun o e => kO C o (fun z => nSC z.2) e,fun h₃ sb => ?_⟩
  have kI : KeepBut (· = C) h₂ h₃:=KeepBut.of_sameBut sb rfl
  obtain ⟨mL',hn',_⟩:=F₂.ns
  have ko:=Kept.of_off (sc:=sc) hn' kI nSC
  have F₃ : FrI prog w sc hF O h₃ env []:=F₂.outside (fun ζ ζ e => nomatch e) kI (fun b q => q ▸ nSC) (fun b q => q ▸ F.keep.none hCn) (fun b q z => absurd (q ▸ z) (F.old.not hCn))
  exact hQ D h₃ _ hDn ((plD.keep fun o e => by
   obtain ⟨n,e'⟩:=plD
   rw [e] at e';obtain rfl:=Option.some.inj e'
   exact kO.same (fun z => nSD z.2) e (by simp)).keep fun o e => sb.extBut D o hDC e) F₃
   (fun b o nb eb => by
    obtain ⟨o₁,e₁,a₁⟩:=kk b o eb
    obtain ⟨o₂,e₂,a₂⟩:=kO b o₁ nb e₁
    exact ⟨o₂,sb.extBut b o₂ (fun q => by subst q;rw [hCn] at eb;cases eb) e₂,a₁.trans a₂⟩)
   ((((Kept.of_keep hnL kk).trans kp).trans ko).mono fun z hz => by simpa using hz) (ko.vk _ _ (by simp) vi)
end
end
section
noncomputable def c3del (c : Str) : List Str → List Str
 | [] => []
 | x :: t => if x == c then t else x :: t
noncomputable def neR (r : List Str) : Bool:=!r.isEmpty
noncomputable def mem2 (c : Str) (r : List Str) : Bool:=r.tail.any (· == c)
noncomputable def c3find (all : List (List Str)) : List (List Str) → Option Str
 | [] => none
 | [] :: rs => c3find all rs
 | (c :: _) :: rs => if all.any (mem2 c) = true then c3find all rs else some c
noncomputable def c3pick (rows : List (List Str)) : Option Str:=c3find (rows.filter neR) (rows.filter neR)
inductive C3 : List (List Str) → List Str → Option (List Str) → List (List Str) → Prop
 | done (rows res) : (∀ r ∈ rows,r = []) → C3 rows res (some res) rows
 | fail (rows res) : (∃ r ∈ rows,r ≠ []) → c3pick rows = none → C3 rows res none rows
 | step (rows res c out rest) : c3pick rows = some c → C3 (rows.map (c3del c)) (res ++ [c]) out rest → C3 rows res out rest
noncomputable def rowT (r : List Str) : PyData:=.list (r.map .str)
noncomputable def rowsT (rows : List (List Str)) : PyData:=.list (rows.map rowT)
end
section
variable [bs : Base]
noncomputable def c3F : Fn:=fnAt PP (some (Str.ofString "result")) 3
noncomputable def c3St (i : Nat) : Stmt:=nth (svB (nth c3F.body 1)) i
noncomputable abbrev forT : Stmt → Expr:=svT
noncomputable abbrev forB : Stmt → List Stmt:=svB
noncomputable abbrev ifT : Stmt → Expr:=svE
noncomputable abbrev forO : Stmt → List Stmt:=svO
noncomputable def OkRow (r : List Str) : Prop:=r.length ≤ 1000 ∧ ∀ x ∈ r,PyData.strOk x = true
theorem shaped_row {r : List Str} (h : ∀ x ∈ r,PyData.strOk x = true) : SeqAt.shaped (.list (r.map PyData.str)) = true:=by
 have h1 : PyData.canLayAll0 (r.map PyData.str) = true:=by
  induction r with
  | nil => rfl
  | cons x r ih =>
   simp only [List.map_cons,PyData.canLayAll0,PyData.canLay0,Bool.and_eq_true]
   exact ⟨h x List.mem_cons_self,ih fun y hy => h y (List.mem_cons_of_mem _ hy)⟩
 have h2 : PyData.depthAll (r.map PyData.str) ≤ 1:=by
  clear h h1
  induction r with
  | nil => simp [PyData.depthAll]
  | cons x r ih => simp only [List.map_cons,PyData.depthAll,PyData.depth];omega
 unfold SeqAt.shaped
 simp only [PyData.canLay0,PyData.depth,Bool.and_eq_true]
 exact ⟨h1,decide_eq_true (by omega)⟩
noncomputable def innerS : Stmt:=nth (forB (c3St 2)) 1
noncomputable def search : Stmt:=c3St 2
noncomputable abbrev vS2 : Str:=Str.ofString "s2"
noncomputable abbrev vCa : Str:=Str.ofString "candidate"
theorem lk_ne {ρ : Vars} {x y : String} {d e : PyData} (h : ρ.lookup (Str.ofString x) = some e) (hx : x ≠ y) : (setV ρ (Str.ofString y) d).lookup (Str.ofString x) = some e:=by
 rw [setV_lookup,if_neg (by rw [ofString_iff];exact hx)];exact h
set_option maxRecDepth 10000 in
theorem inner_turn {T : Tab} (n : Nat) {c : Str} (hc : PyData.strOk c = true) {r : List Str} (hr : OkRow r) {ρ : Vars} (h1 : ρ.lookup vCa = some (.str c)) (h2 : ρ.lookup vS2 = some (rowT r)) :
  (evs T (n + 16)).ss c3F.names none ⟨ρ,none⟩ (forB innerS) = some (.ok (if mem2 c r = true then (.brk,⟨setV ρ vCa .none,none⟩) else (.next,⟨ρ,none⟩))):=by
 have ht : (evs T (n + 15)).tr c3F.names ρ (ifT (nth (forB innerS) 0)) = some (mem2 c r):=by
  refine (show _ = ((ρ.lookup vCa).bind fun d1 => ((ρ.lookup vS2).bind fun d => slice d (some 1) none none).bind fun d2 => cmpop .In d1 d2) by kernel_rfl).trans ?_
  rw [h1,h2]
  show (slice (.list (r.map PyData.str)) (some 1) none none).bind (fun d2 => cmpop .In (.str c) d2) = _
  rw [sl_l ⟨by rw [List.length_map];have:=hr.1;unfold lim;omega,by decide⟩,pickD_tail,← List.map_tail]
  refine (co_inl ⟨?_,shaped_row fun x hx => hr.2 x (List.mem_of_mem_tail hx)⟩).trans ?_
  ·simp [SeqAt.shaped,PyData.canLay0,PyData.depth,hc]
  ·rw [List.any_map];rfl
 refine (show _ = ((Rs.up (orD ((evs T (n + 15)).tr c3F.names ρ (ifT (nth (forB innerS) 0))) ((evs T (n + 15)).tr c3F.names ρ (ifT (nth (forB innerS) 0))))).bind (fun t => if t = true then Rs.ok (Out.brk,(⟨setV ρ vCa .none,none⟩ : St)) else Rs.ok (Out.next,(⟨ρ,none⟩ : St)))).bind (fun p : Out × St => match p with
  | (Out.next,σ') => Rs.ok (Out.next,σ')
  | p => Rs.ok p) by kernel_rfl).trans ?_
 rw [ht]
 cases mem2 c r <;> rfl
set_option maxRecDepth 10000 in
theorem inner_eq {T : Tab} (n : Nat) (c : Str) (hc : PyData.strOk c = true) : ∀ (ds : List (List Str)) (ρ : Vars),(∀ r ∈ ds,OkRow r) → ρ.lookup vCa = some (.str c) →
  ∃ out ρ',forGo (evs T (n + 16)) c3F.names none (forT innerS) (forB innerS) (forO innerS) (ds.map rowT) ⟨ρ,none⟩ = some (out,⟨ρ',none⟩) ∧ (∀ y,y ≠ vS2 → y ≠ vCa → ρ'.lookup y = ρ.lookup y) ∧
   (ds.any (mem2 c) = true → out = .next ∧ ρ'.lookup vCa = some .none) ∧ (ds.any (mem2 c) = false → out = .brk ∧ ρ'.lookup vCa = some (.str c))
 | [],ρ,_,hρ => ⟨.brk,ρ,by kernel_rfl,fun ζ ζ ζ => rfl,nofun,fun ζ => ⟨rfl,hρ⟩⟩
 | r :: ds,ρ,hr,hρ => by
  have h1 : (setV ρ vS2 (rowT r)).lookup vCa = some (.str c):=lk_ne hρ (by decide)
  have st:=forGo_step (ow:=none) (o:=forO innerS) (ds:=ds.map rowT) (σ:=⟨ρ,none⟩) (show bindT c3F.names (forT innerS) (rowT r) ρ = some (setV ρ vS2 (rowT r)) by kernel_rfl) (inner_turn (T:=T) n hc (hr r List.mem_cons_self) h1 (by rw [setV_lookup,if_pos rfl]))
  rw [List.map_cons,List.any_cons,st]
  cases mem2 c r with
  | true => exact ⟨_,_,rfl,fun y h1 h2 => by rw [setV_lookup,if_neg h2,setV_lookup,if_neg h1],fun ζ => ⟨rfl,by rw [setV_lookup,if_pos rfl]⟩,nofun⟩
  | false =>
   obtain ⟨out,ρ',e1,e2,e3,e4⟩:=inner_eq n c hc ds (setV ρ vS2 (rowT r)) (fun q hq => hr q (List.mem_cons_of_mem _ hq)) h1
   exact ⟨out,ρ',e1,fun y h1 h2 => by rw [e2 y h1 h2,setV_lookup,if_neg h1],e3,e4⟩
set_option maxRecDepth 10000 in
theorem outer_eq {T : Tab} (n : Nat) (all : List (List Str)) (hall : ∀ r ∈ all,OkRow r) : ∀ (ds : List (List Str)) (ρ : Vars),(∀ r ∈ ds,r ∈ all) → ρ.lookup (Str.ofString "sequences") = some (rowsT all) →
  (∀ r ∈ ds,r ≠ []) → (ds = [] → ρ.lookup vCa = some .none) →
  ∃ ρ',forGo (evs T (n + 20)) c3F.names none (forT search) (forB search) (forO search) (ds.map rowT) ⟨ρ,none⟩ = some (.next,⟨ρ',none⟩) ∧
   ρ'.lookup vCa = some (match c3find all ds with | some c => .str c | none => .none)
 | [],ρ,_,_,_,hcn => ⟨ρ,by kernel_rfl,hcn rfl⟩
 | [] :: ds,ρ,_,_,hne,_ => absurd rfl (hne [] List.mem_cons_self)
 | (c :: t) :: ds,ρ,hsub,hρ,hne,hcn => by
  have hrr:=hall _ (hsub _ List.mem_cons_self)
  have hl : (t.map PyData.str).length < lim:=by have:=hrr.1;rw [List.length_map];rw [List.length_cons] at this;unfold lim;omega
  obtain ⟨out,ρ₁,e1,e2,e3,e4⟩:=inner_eq (T:=T) (n + 2) c (hrr.2 c List.mem_cons_self) all (setV (setV ρ (Str.ofString "s1") (rowT (c :: t))) vCa (.str c)) hall (by rw [setV_lookup,if_pos rfl])
  have hb : (evs T (n + 20)).ss c3F.names none ⟨setV ρ (Str.ofString "s1") (rowT (c :: t)),none⟩ (forB search) = some (.ok (out,⟨ρ₁,none⟩)):=by
   refine (ss_asg (n:=n + 19) (d:=.str c) (by kernel_rfl) ((show _ = ((setV ρ (Str.ofString "s1") (rowT (c :: t))).lookup (Str.ofString "s1")).bind (fun d => getitem d (.int 0)) by kernel_rfl).trans (by rw [setV_lookup,if_pos rfl];exact gi_l0 hl))).trans ?_
   refine (ss_for (n:=n + 18) rfl rfl ?_ e1).trans ?_
   ·refine (show _ = ((setV (setV ρ (Str.ofString "s1") (rowT (c :: t))) vCa (.str c)).lookup (Str.ofString "sequences")).bind itemsOf by kernel_rfl).trans ?_
    rw [lk_ne (lk_ne hρ (by decide)) (by decide)]
    rfl
   ·cases out <;> rfl
  have st:=forGo_step (ow:=none) (o:=forO search) (ds:=ds.map rowT) (σ:=⟨ρ,none⟩) (show bindT c3F.names (forT search) (rowT (c :: t)) ρ = some (setV ρ (Str.ofString "s1") (rowT (c :: t))) by kernel_rfl) hb
  rw [List.map_cons,st,show c3find all ((c :: t) :: ds) = if all.any (mem2 c) = true then c3find all ds else some c from rfl]
  clear st hb e1
  cases hm : all.any (mem2 c) with
  | true =>
   obtain ⟨rfl,hcand⟩:=e3 hm
   exact outer_eq n all hall ds ρ₁ (fun q hq => hsub q (List.mem_cons_of_mem _ hq)) (by
    rw [e2 _ (by rw [ne_eq,ofString_iff];decide) (by rw [ne_eq,ofString_iff];decide),lk_ne (lk_ne hρ (by decide)) (by decide)]) (fun q hq => hne q (List.mem_cons_of_mem _ hq)) (fun ζ => hcand)
  | false =>
   obtain ⟨rfl,hcand⟩:=e4 hm
   exact ⟨ρ₁,rfl,hcand⟩
set_option maxRecDepth 10000 in
theorem search_eq {T : Tab} (n : Nat) (rows : List (List Str)) (hrows : ∀ r ∈ rows,OkRow r) (hne : ∀ r ∈ rows,r ≠ []) (hnil : rows ≠ []) (ρ : Vars) (hρ : ρ.lookup (Str.ofString "sequences") = some (rowsT rows)) :
  ∃ ρ',stmtE T (evs T (n + 20)) c3F.names none ⟨ρ,none⟩ search = some (.ok (.next,⟨ρ',none⟩)) ∧ ρ'.lookup vCa = some (match c3find rows rows with | some c => .str c | none => .none):=by
 obtain ⟨ρ',g1,g2⟩:=outer_eq (T:=T) n rows hrows rows ρ (fun ζ h => h) hρ hne (fun h => absurd h hnil)
 refine ⟨ρ',(show _ = Rs.up (((ρ.lookup (Str.ofString "sequences")).bind itemsOf).bind fun ds => forGo (evs T (n + 20)) c3F.names none (forT search) (forB search) (forO search) ds ⟨ρ,none⟩) by kernel_rfl).trans ?_,g2⟩
 rw [hρ]
 exact congrArg Rs.up g1
end
section
variable [bs : Base]
noncomputable def delS : Stmt:=c3St 5
noncomputable def RowsP (h : Heap) (ps : List (Addr × List Str)) : Prop:=∀ p ∈ ps,∃ vs,PL h p.1 vs ∧ StrsAre vs p.2
theorem strsAre_rep {prog : Program} {w : World} {O : Addr → Prop} {h : Heap} {vs : List Value} {xs : List Str} (r : StrsAre vs xs) : RepAll prog w O h vs (xs.map PyData.str):=by
 induction r with
 | nil => exact .nil
 | cons y t _ ih => exact .cons (.str y t) ih
theorem strsAre_length {vs : List Value} {xs : List Str} (r : StrsAre vs xs) : vs.length = xs.length:=by
 induction r with
 | nil => rfl
 | cons y t _ ih => simp [ih]
set_option maxRecDepth 10000 in
theorem delTest_eq {T : Tab} (n : Nat) (x c : Str) (t : List Str) (ht : t.length ≤ 1000) (ρ : Vars) (h1 : ρ.lookup (Str.ofString "seq") = some (rowT (x :: t))) (h2 : ρ.lookup (Str.ofString "candidate") = some (.str c)) :
  (evs T (n + 10)).tr c3F.names ρ (ifT (nth (forB delS) 0)) = some (x == c):=by
 refine (show _ = ((ρ.lookup (Str.ofString "seq")).bind fun d => getitem d (.int 0)).bind (fun d1 => (ρ.lookup (Str.ofString "candidate")).bind fun d2 => cmpop .Eq d1 d2) by kernel_rfl).trans ?_
 rw [h1,h2]
 show (getitem (.list (.str x :: t.map PyData.str)) (.int 0)).bind _ = _
 rw [gi_l0 (by rw [List.length_map];unfold lim;omega)]
 exact co_eqs x c
section
variable {prog : Program} {w : World} {T : Tab} {hb : Heap} {mg mb : Str → Option Value} {cl : Str → Option Value} {n : Nat} {A : Around} {r : Evs}
variable {hM : Heap} {env : Env} {s : Shared} {O : Addr → Prop} {E : Value → Shared → Prop}
noncomputable def delP (c : Str) (p : Addr × List Str) : Addr × List Str:=(p.1,c3del c p.2)
set_option maxRecDepth 10000 in
theorem delTurn_ok (B : ∀ k,Bd prog w T hb mg mb cl k (evs T k)) (rm : Rm false hb 20 A) {c : Str} {a : Addr} {x : Str} {t : List Str} {vs : List Value} (ht : t.length ≤ 1000) (F : Fx prog w hb c3F.names hM O s.heap env [(Str.ofString "candidate",.str c)])
  (K : Stk hb A s.heap) (vi : VarIs s.heap env c3F.names (Str.ofString "seq") (.ref a)) (pl : PL s.heap a vs) (sa : StrsAre vs (x :: t)) (hO : ¬ O a) (hMa : hM.get? a = none) {Q : Flow → Shared → Prop}
  (hQ : ∀ h' tk vs',Fx prog w hb c3F.names hM O h' env [(Str.ofString "candidate",.str c)] → Kept env c3F.names [] s.heap h' → KeepBut (· = a) s.heap h' → PL h' a vs' → StrsAre vs' (c3del c (x :: t)) → Q .next { s with heap:=h',toks:=tk }) :
  wpAny (model prog w) A (execs (forB delS) env) Q E s:=by
 have nS : ¬ Sl env a:=fun z => hO (F.F.slot z)
 have eS : ifT (nth (forB delS) 0) = ifT (nth (forB delS) 0):=rfl
 conv at eS => rhs;whnf
 have tst:=delTest_eq (T:=T) 0 x c t ht [(Str.ofString "seq",rowT (x :: t)),(Str.ofString "candidate",.str c)] (by rw [lookup_cons_eq,if_pos rfl]) (by rw [lookup_cons_eq,if_neg (by rw [ofString_iff];decide),lookup_cons_eq,if_pos rfl])
 rw [eS] at tst
 have eB : forB delS = forB delS:=rfl
 conv at eB => rhs;whnf
 rw [eB]
 clear eB eS
 obtain ⟨m₀,hn₀⟩:=F.ns
 have F₁ : Fx prog w hb c3F.names hM O s.heap env [(Str.ofString "seq",rowT (x :: t)),(Str.ofString "candidate",.str c)] :=
  F.withVar (fun ζ z => z) (fun b z => F.F.slot z) vi (.list hO pl (strsAre_rep sa))
 refine execs_cons (wpAny_If ((B 10).tr _ _ _ _ tst A s env hM O _ _ (rm.le (by omega)) F₁ K fun s₁ p => ?_))
 obtain ⟨h₁,tk₁,rfl,k1⟩:=p
 cases hxc : x == c with
 | false =>
  simp only [Bool.false_eq_true,if_false]
  refine wpAny_pure (wpAny_pure (hQ h₁ tk₁ vs (F.keeps k1) (Kept.of_keep hn₀ k1) k1.but (pl.keepK k1) ?_))
  simpa [c3del,hxc] using sa
 | true =>
  simp only [if_true]
  refine execs_cons (wpAny_Delete (wpAny_deleteEach_cons (wpAny_delete_Subscript ((vi.keep k1).name (F.keeps k1).F (wpAny_Constant_int ?_)))))
  obtain ⟨n0,hat⟩:=pl.keepK k1
  have hvl:=strsAre_length sa
  refine delItem_at (k:=0) (s:={ s with heap:=h₁,toks:=tk₁ + 1 }) hat (by decide) (by rw [seq_in (by decide) (by simp [hvl])];rfl) (fun h₂ sb hat₂ => ?_) (by rw [sizeLine_eq];simp [hvl];omega)
  have kb : KeepBut (· = a) h₁ h₂:=KeepBut.of_sameBut sb rfl
  refine wpAny_deleteEach_nil (wpAny_pure (wpAny_pure ?_))
  obtain ⟨m₁,hn₁⟩:=(F.keeps k1).ns
  refine hQ h₂ (tk₁ + 1) vs.tail ((F.keeps k1).outside (fun y d e => ?_) kb (fun b q => q ▸ nS) (fun b q => q ▸ hMa) (fun b q z => absurd (q ▸ z) hO)) (((Kept.of_keep hn₀ k1).trans (Kept.of_off hn₁ kb nS)).mono fun y hy => by simp at hy) (k1.but.trans kb) ⟨n0 + 1,?_⟩ ?_
  ·rw [lookup_cons_eq] at e
   split at e
   ·obtain rfl:=Option.some.inj e;rfl
   ·cases e
  ·rw [hat₂];simp
  ·cases sa with | cons _ _ r => simpa [c3del,hxc] using r
set_option maxRecDepth 10000 in
theorem delLoop_ok (B : ∀ k,Bd prog w T hb mg mb cl k (evs T k)) (rm : Rm false hb 20 A) {c : Str} {S I : Addr} {qs : List (Addr × List Str)} (hqs : qs.length ≤ 1000) (hrow : ∀ p ∈ qs,p.2 ≠ [] ∧ p.2.length ≤ 1000) (nd : (qs.map (·.1)).Nodup) (hqI : ∀ p ∈ qs,p.1 ≠ I) (hqS : ∀ p ∈ qs,p.1 ≠ S)
  (hMq : ∀ p ∈ qs,hM.get? p.1 = none) (hMI : hM.get? I = none) (nSI : ¬ Sl env I) (nSS : ¬ Sl env S) (hIS : I ≠ S) {h₀ : Heap} (hI0 : h₀.get? I = none) :
  ∀ (suf : List (Addr × List Str)) (i : Nat),qs.drop i = suf → i ≤ qs.length → ∀ (s : Shared) (R : Result → Shared → Prop),Fx prog w hb c3F.names hM O s.heap env [(Str.ofString "candidate",.str c)] → Stk hb A s.heap → (∀ p ∈ qs,¬ O p.1) → ¬ O I →
   s.heap.IsListIter I S i → PL s.heap S (qs.map fun p => .ref p.1) → RowsP s.heap ((qs.take i).map (delP c)) → RowsP s.heap suf → Kept env c3F.names [Str.ofString "seq"] h₀ s.heap → KeepBut (fun b => Sl env b ∨ ∃ p ∈ qs,p.1 = b) h₀ s.heap →
   (∀ h' tk,Fx prog w hb c3F.names hM O h' env [(Str.ofString "candidate",.str c)] → PL h' S (qs.map fun p => .ref p.1) → RowsP h' (qs.map (delP c)) → Kept env c3F.names [Str.ofString "seq"] h₀ h' → KeepBut (fun b => Sl env b ∨ ∃ p ∈ qs,p.1 = b) h₀ h' → R (.ok .next) { s with heap:=h',toks:=tk }) →
   codeAny (model prog w) A (.forLoop (forT delS) (.ref I) (forB delS) (forO delS) env) R s:=by
 have eT : forT delS = forT delS:=rfl
 conv at eT => rhs;whnf
 have eE : forO delS = forO delS:=rfl
 conv at eE => rhs;whnf
 rw [eT,eE]
 clear eT eE
 have scal : ∀ x d,[(Str.ofString "candidate",PyData.str c)].lookup x = some d → scalar d = true:=fun y d e => by
  rw [lookup_cons_eq] at e
  split at e
  ·obtain rfl:=Option.some.inj e;rfl
  ·cases e
 intro suf
 induction suf with
 | nil =>
  intro i hdrop hile s R F K hO hOI hit hS done rest kp kb hR
  have hie : i = qs.length:=Nat.le_antisymm hile (List.drop_eq_nil_iff.mp hdrop)
  subst hie
  refine forLoop_step (wpAny_pyNext_list_end (rm.hand rfl) hit hS.isList (by simp) fun h' ext => ?_)
  have k : KeepBut (· = I) s.heap h':=KeepBut.of_extBut ext rfl
  obtain ⟨m,hn⟩:=F.ns
  refine wpAny_pure ?_
  rw [List.take_length] at done
  have F':=F.outside scal k (fun b q => q ▸ nSI) (fun b q => q ▸ hMI) (fun b q z => absurd (q ▸ z) hOI)
  refine hR h' s.toks F' (hS.off k (Ne.symm hIS)) (fun p hp => ?_) ((kp.trans (Kept.of_off hn k nSI)).mono fun y hy => by simpa using hy) ?_
  ·obtain ⟨vs,l,sa⟩:=done p hp
   refine ⟨vs,l.off k ?_,sa⟩
   obtain ⟨p',hp',rfl⟩:=lMp hp
   exact hqI p' hp'
  ·intro b o nb eb
   obtain ⟨o₁,e₁,a₁⟩:=kb b o nb eb
   obtain ⟨o₂,e₂,a₂⟩:=k b o₁ (fun q => by subst q;rw [hI0] at eb;cases eb) e₁
   exact ⟨o₂,e₂,a₁.trans a₂⟩
 | cons q suf ih =>
  intro i hdrop hile s R F K hO hOI hit hS done rest kp kb hR
  have hqi : qs[i]? = some q:=by
   have:=congrArg (·[0]?) hdrop
   simpa using this
  have hilt : i < qs.length:=(List.getElem?_eq_some_iff.mp hqi).1
  have hqm : q ∈ qs:=List.mem_of_getElem? hqi
  have hdrop' : qs.drop (i + 1) = suf:=by
   have:=congrArg List.tail hdrop
   simpa using this
  have hsplit : qs = qs.take i ++ q :: suf:=by rw [← hdrop,List.take_append_drop]
  have nd':=nd
  rw [hsplit,List.map_append,List.map_cons] at nd'
  have nd1 : ∀ p ∈ qs.take i,p.1 ≠ q.1:=fun p hp e => by
   have:=(List.nodup_append.mp nd').2.2 p.1 (lMr ⟨p,hp,rfl⟩) q.1 List.mem_cons_self
   exact this e
  have nd2 : ∀ p ∈ suf,p.1 ≠ q.1:=fun p hp e => by
   have:=(List.nodup_cons.mp (List.nodup_append.mp nd').2.1).1
   exact this (lMr ⟨p,hp,e⟩)
  obtain ⟨m,hn⟩:=F.ns
  refine forLoop_step (wpAny_pyNext_list_item hit hS.isList (x:=.ref q.1) (by simp [hqi]) fun h₁ hit₁ sb₁ => ?_)
  have k1 : KeepBut (· = I) s.heap h₁:=KeepBut.of_sameBut sb₁ rfl
  have F₁:=F.outside scal k1 (fun b z => z ▸ nSI) (fun b z => z ▸ hMI) (fun b z y => absurd (z ▸ y) hOI)
  obtain ⟨oI,hoI,hcI,hdI⟩:=id hit₁
  refine letOwned_other (s:={ s with heap:=h₁ }) hoI hcI (by decide) ?_
  have kp1:=Kept.of_off (sc:=c3F.names) hn k1 nSI
  have hseq : c3F.names.lookup (Str.ofString "seq") = some .local:=by
   have eN : c3F.names = c3F.names:=rfl
   conv at eN => rhs;whnf
   rw [eN]
   simp only [lookup_cons_eq,ofString_iff,String.reduceEq,if_false,if_true]
  refine wpAny_assign_Name (FrI.storeV (s:={ s with heap:=h₁ }) F₁.F (.inl hseq) ((lookup_cons_eq _ _ _ _).trans (if_neg (by rw [ofString_iff];decide))) fun h₂ tk₂ F₂ k2 kp2 vi => ?_)
  have k2S : KeepBut (Sl env) h₁ h₂:=k2.mono fun b z => z.2
  have nS : ∀ p ∈ qs,¬ Sl env p.1:=fun p hp z => hO p hp (by
   rcases z with z | ⟨y,hy⟩
   ·rw [z];exact F.F.oloc.1
   ·exact (F.F.ocell y _ hy).1)
  have F₂' : Fx prog w hb c3F.names hM O h₂ env [(Str.ofString "candidate",.str c)]:=⟨F₂,F.kb,F.onew⟩
  have K₂ : Stk hb A h₂:=K.off F.F (C:=fun b => Sl env b ∨ b = I) ((k1.mono fun b z => .inr z).trans (k2S.mono fun b z => .inl z)) ((kp1.trans kp2).lc) fun b z => z.imp id fun z o ho => by
   subst z
   obtain ⟨oI₀,hoI₀,hcI₀,_⟩:=id hit
   rw [ho] at hoI₀;obtain rfl:=Option.some.inj hoI₀
   rw [hcI₀];simp
  obtain ⟨vs,pl,sa⟩:=rest q List.mem_cons_self
  obtain ⟨hq2,hq3⟩:=hrow q hqm
  obtain ⟨x,t,hxt⟩ : ∃ x t,q.2 = x :: t:=by
   cases h : q.2 with
   | nil => exact absurd h hq2
   | cons x t => exact ⟨x,t,rfl⟩
  have pl₂ : PL h₂ q.1 vs:=(pl.off k1 (hqI q hqm)).off k2S (nS q hqm)
  refine delTurn_ok (s:={ s with heap:=h₂,toks:=tk₂ }) B rm (by rw [hxt] at hq3;simp at hq3;omega) F₂' K₂ vi pl₂ (hxt ▸ sa) (hO q hqm) (hMq q hqm) fun h₃ tk₃ vs' F₃ kp3 k3 pl₃ sa₃ => ?_
  have k03 : KeepBut (fun b => Sl env b ∨ b = I ∨ b = q.1) s.heap h₃:=((k1.mono fun b z => .inr (.inl z)).trans (k2S.mono fun b z => .inl z)).trans (k3.mono fun b z => .inr (.inr z))
  have off : ∀ p ∈ qs,p.1 ≠ q.1 → ∀ us,PL s.heap p.1 us → PL h₃ p.1 us:=fun p hp hne us l => l.off k03 fun z => z.elim (nS p hp) fun z => z.elim (hqI p hp) hne
  refine ih (i + 1) hdrop' hilt { s with heap:=h₃,toks:=tk₃ } R F₃ ?_ hO hOI ?_ (hS.off k03 fun z => z.elim nSS fun z => z.elim (fun z => hIS z.symm) fun z => hqS q hqm z.symm) ?_ ?_ ?_ ?_ fun h' tk F' hS' rp kp' kb' => hR h' tk F' hS' rp kp' kb'
  ·refine K₂.off F₂ (C:=(· = q.1)) k3 kp3.lc fun b z => .inr fun o ho => ?_
   subst z
   obtain ⟨_,e'⟩:=pl₂
   rw [ho] at e';obtain rfl:=Option.some.inj e';simp
  ·exact ⟨oI,(k3.same (fun z => hqI q hqm z.symm) (k2S.same nSI hoI (by rw [hcI];simp)) (by rw [hcI];simp)),hcI,hdI⟩
  ·intro p hp
   rw [List.take_add_one,hqi] at hp
   simp only [Option.toList,List.map_append,List.map_cons,List.map_nil,List.mem_append,List.mem_singleton] at hp
   rcases hp with hp | rfl
   ·obtain ⟨us,l,sa'⟩:=done p hp
    obtain ⟨p',hp',rfl⟩:=lMp hp
    exact ⟨us,off p' (List.mem_of_mem_take hp') (nd1 p' hp') us l,sa'⟩
   ·exact ⟨vs',pl₃,by show StrsAre vs' (c3del c q.2);rw [hxt];exact sa₃⟩
  ·intro p hp
   obtain ⟨us,l,sa'⟩:=rest p (List.mem_cons_of_mem _ hp)
   exact ⟨us,off p (by rw [hsplit];exact List.mem_append_right _ (List.mem_cons_of_mem _ hp)) (nd2 p hp) us l,sa'⟩
  ·exact (((kp.trans kp1).trans kp2).trans kp3).mono fun y hy => by simpa using hy
  ·intro b o nb eb
   obtain ⟨o₁,e₁,a₁⟩:=kb b o nb eb
   obtain ⟨o₂,e₂,a₂⟩:=k03 b o₁ (fun z => by
    rcases z with z | z | z
    ·exact nb (.inl z)
    ·subst z;rw [hI0] at eb;cases eb
    ·exact nb (.inr ⟨q,hqm,z.symm⟩)) e₁
   exact ⟨o₂,e₂,a₁.trans a₂⟩
end
end
section
variable [bs : Base]
section
variable {hb : Heap} {A : Around} {env : Env} {s : Shared} {E : Value → Shared → Prop} {M : Model}
theorem note_next {h₀ : Heap} {l : List Env} {L e : Addr} {C : Value} {x : Str} (hfr : A.frames = some (env :: l)) (hf : env.frame = some L) (K : Stk hb A s.heap) (f : Fly2 h₀ s.heap e C x .none) {Q : Unit → Shared → Prop}
  (hQ : ∀ h',Fly2 h₀ h' e C x (rawInt L) → Stk hb A h' → (Lone s.heap e → Lone h' e) → Q () { s with heap:=h' }) : wpAny M A (noteFrame (.ref e) env) Q E s:=by
 obtain ⟨kp,hen,t,tk,tr,htn,pt⟩:=f
 obtain ⟨oe,vs,T,oT,ts,g1,g2,g3,g4,g5,g6,g7,g8,g9⟩:=tr
 have oth : ∀ b,b ≠ T → (s.heap.update T (Obj.mapFields (·.setIfInBounds 3 Value.none))).get? b = s.heap.get? b:=fun b q => Heap.get?_update_other _ _ (Ne.symm q)
 unfold noteFrame
 simp only [hf]
 refine wpAny_bind (wpAny_field g1 g3 g4 ?_)
 rw [if_pos (show (Value.ref T != Value.none) = true from rfl)]
 refine wpAny_bind (wpAny_field g7 g8 g9 ?_)
 rw [if_neg (show ¬ ((Value.none == rawInt L) = true) from Bool.false_ne_true)]
 refine wpAny_bind (wpAny_setField g7 g8 (Array.getElem?_eq_some_iff.mp g9).1 ?_)
 generalize s.heap.update T (Obj.mapFields (·.setIfInBounds 3 Value.none)) = h₁ at oth
 have k1 : KeepBut (· = T) s.heap h₁:=.of fun b o nb eb => (oth b nb).trans eb
 refine note_core (s:={ s with heap:=h₁ }) hfr hf (K.chg k1 fun b q o es ep ho ζ hd => ?_) (fun b o eb => ?_) hen ((oth e (Ne.symm g6)).trans g1) g3 (Array.getElem?_eq_some_iff.mp g4).1 g2.1 g2.2 htn (pt.off k1 fun q => ?_) fun h' f K' ln => hQ h' f K' fun ⟨oe',vs',f1,f2,f3⟩ => ln (by cases g1.symm.trans f1;cases g3.symm.trans f2;exact f3)
 ·rw [q,g7] at ho;obtain rfl:=Option.some.inj ho;cases g8.symm.trans hd
 ·obtain ⟨o',e',al⟩:=kp b o eb
  exact ⟨o',(oth b fun q => by rw [q,g5] at eb;cases eb).trans e',al⟩
 ·obtain ⟨_,e'⟩:=pt
  rw [q,g7] at e';cases e';cases g8
theorem note_again {h₀ : Heap} {L e : Addr} {C : Value} {x : Str} (hf : env.frame = some L) (f : Fly2 h₀ s.heap e C x (rawInt L)) {Q : Unit → Shared → Prop} (hQ : Q () s) : wpAny M A (noteFrame (.ref e) env) Q E s:=by
 obtain ⟨_,_,t,tk,tr,_,_⟩:=f
 exact wpAny_noteFrame_againW (base:=h₀) hf tr hQ
theorem Fly2.tb {h₀ h : Heap} {e : Addr} {C : Value} {x : Str} {fl : Value} (f : Fly2 h₀ h e C x fl) : ∃ oe vs T,h.get? e = some oe ∧ oe.cls = C ∧ oe.data = .fields vs ∧ vs[1]? = some (.ref T) ∧ ∃ t,vs[0]? = some (.ref t) :=
 by
 obtain ⟨_,_,t,_,⟨oe,vs,T,_,_,g1,g2,g3,g4,_⟩,_⟩:=f
 exact ⟨oe,vs,T,g1,g2.1,g3,g4,t,g2.2⟩
theorem cameBack_ok {h₀ : Heap} {e L : Addr} {C : Value} {x : Str} {fl : Value} (hf : env.frame = some L) (f : Fly2 h₀ s.heap e C x fl)
  (hE : ∀ h',Fly2 h₀ h' e C x (rawInt L) → (Lone s.heap e → Lone h' e) → E (.ref e) { s with heap:=h' }) : cameBackBy M A env E (.ref e) s:=by
 obtain ⟨oe,vs,T,g1,_,g3,g4,_⟩:=f.tb
 unfold cameBackBy
 refine wpAny_bind (wpAny_field g1 g3 g4 ?_)
 rw [if_neg (show ¬ ((Value.ref T == Value.none) = true) by simp)]
 rw [hf]
 exact flight_ok (hb:=h₀) (fr:=some L) f fun h' f' ζ ln => hE h' f' ln
theorem leave_held {h₀ : Heap} {e L : Addr} {C : Value} {x : Str} (hf : env.frame = some L) (f : Fly2 h₀ s.heap e C x (rawInt L)) {Q : Unit → Shared → Prop}
  (hQ : ∀ h',Fly2 h₀ h' e C x .none → (Lone s.heap e → Lone h' e) → Q () { s with heap:=h' }) : wpAny M A (leaving env (.ref e)) Q E s:=by
 unfold leaving
 refine wpAny_bind (note_again hf f ?_)
 exact flight_ok (hb:=h₀) (fr:=none) f fun h' f' ζ ln => hQ h' f' ln
end
end
section
variable [bs : Base]
noncomputable abbrev whT : Stmt → Expr:=svE
noncomputable abbrev whB : Stmt → List Stmt:=svB
noncomputable def c3W : Stmt:=nth c3F.body 1
theorem own_app {ds : List PyData} {d : PyData} (h : ds.length < lim) : ownAct (Str.ofString "append") ds d = some (ds ++ [d]):=(if_pos rfl).trans (if_pos h)
set_option maxRecDepth 10000 in
theorem c3_test {T : Tab} (n : Nat) (ρ : Vars) : (evs T (n + 5)).tr c3F.names ρ (whT c3W) = some true:=by kernel_rfl
set_option maxRecDepth 10000 in
theorem c3_empty {T : Tab} (n : Nat) (rows : List (List Str)) (hl : rows.length ≤ 1000) (ρ : Vars) (h : ρ.lookup (Str.ofString "sequences") = some (rowsT rows)) : (evs T (n + 10)).tr c3F.names ρ (ifT (c3St 1)) = some rows.isEmpty:=by
 refine (show _ = ((ρ.lookup (Str.ofString "sequences")).bind truth).bind (fun b => some !b) by kernel_rfl).trans ?_
 rw [h]
 show (truth (.list (rows.map rowT))).bind _ = _
 rw [tr_l (by rw [List.length_map];unfold lim;omega)]
 cases rows <;> rfl
set_option maxRecDepth 10000 in
theorem c3_isnone {T : Tab} (n : Nat) (fc : Option Str) (ρ : Vars) (h : ρ.lookup (Str.ofString "candidate") = some (match fc with | some c => .str c | none => .none)) : (evs T (n + 10)).tr c3F.names ρ (ifT (c3St 3)) = some fc.isNone:=by
 refine (show _ = (ρ.lookup (Str.ofString "candidate")).bind (fun d => cmpop .Is d .none) by kernel_rfl).trans ?_
 rw [h]
 cases fc <;> rfl
set_option maxRecDepth 10000 in
theorem c3_append {T : Tab} (n : Nat) (c : Str) (ds : List PyData) (hl : ds.length < lim) : stmtE T (evs T (n + 10)) c3F.names (some (Str.ofString "result")) ⟨[(Str.ofString "candidate",.str c)],some (Str.ofString "result",ds)⟩ (c3St 4) =
  some (.ok (.next,⟨[(Str.ofString "candidate",.str c)],some (Str.ofString "result",ds ++ [.str c])⟩)):=by
 refine (show _ = Rs.up ((ownAct (Str.ofString "append") ds (.str c)).map fun ds => (Out.next,(⟨[(Str.ofString "candidate",.str c)],some (Str.ofString "result",ds)⟩ : St))) by kernel_rfl).trans ?_
 rw [own_app hl]
 rfl
end
section
variable [bs : Base]
theorem find_head {all : List (List Str)} {c : Str} : ∀ {rows : List (List Str)},c3find all rows = some c → ∃ t,(c :: t) ∈ rows
 | [],h => nomatch h
 | [] :: rs,h => let ⟨t,ht⟩:=find_head (rows:=rs) h;⟨t,List.mem_cons_of_mem _ ht⟩
 | (d :: t) :: rs,h => by
  unfold c3find at h
  split at h
  ·obtain ⟨t',ht⟩:=find_head h;exact ⟨t',List.mem_cons_of_mem _ ht⟩
  ·obtain rfl:=Option.some.inj h;exact ⟨t,List.mem_cons_self⟩
theorem del_len (c : Str) (r : List Str) : (c3del c r).length ≤ r.length:=by
 cases r with
 | nil => exact Nat.le_refl _
 | cons x t =>
  by_cases h : x == c
  ·simp [c3del,h]
  ·simp [c3del,h]
theorem del_sub {c y : Str} {r : List Str} (h : y ∈ c3del c r) : y ∈ r:=by
 cases r with
 | nil => exact h
 | cons x t =>
  rw [show c3del c (x :: t) = if (x == c) = true then t else x :: t from rfl] at h
  split at h
  ·exact List.mem_cons_of_mem _ h
  ·exact h
theorem del_sum {c : Str} {t : List Str} : ∀ {rows : List (List Str)},(c :: t) ∈ rows → ((rows.map (c3del c)).map List.length).sum + 1 ≤ (rows.map List.length).sum
 | r :: rs,h => by
  simp only [List.map_cons,List.sum_cons]
  have all : ∀ l : List (List Str),((l.map (c3del c)).map List.length).sum ≤ (l.map List.length).sum:=by
   intro l
   induction l with
   | nil => exact Nat.le_refl _
   | cons x l ih =>
    simp only [List.map_cons,List.sum_cons]
    have:=del_len c x
    omega
  rcases cMp h with e | h
  ·subst e
   have h1 : (c3del c (c :: t)).length = t.length:=by unfold c3del;simp
   have:=all rs
   simp only [h1,List.length_cons];omega
  ·have h1:=del_sum h
   have:=del_len c r
   omega
theorem nodup_inj {α β : Type} {f : α → β} : ∀ {l : List α},(l.map f).Nodup → ∀ {a b : α},a ∈ l → b ∈ l → f a = f b → a = b
 | [],_,_,_,h,_,_ => nomatch h
 | x :: l,nd,a,b,ha,hb,e => by
  rw [List.map_cons,List.nodup_cons] at nd
  rcases cMp ha with e1 | ha' <;> rcases cMp hb with e2 | hb'
  ·rw [e1,e2]
  ·exact absurd (lMr ⟨b,hb',by rw [← e,e1]⟩) nd.1
  ·exact absurd (lMr ⟨a,ha',by rw [e,e2]⟩) nd.1
  ·exact nodup_inj nd.2 ha' hb' e
noncomputable def ne2 (p : Addr × List Str) : Bool:=neR p.2
theorem filter_del (c : Str) : ∀ ps : List (Addr × List Str),((ps.filter ne2).map (delP c)).filter ne2 = (ps.map (delP c)).filter ne2
 | [] => rfl
 | p :: ps => by
  have ih:=filter_del c ps
  cases hn : ne2 p with
  | true =>
   rw [List.filter_cons_of_pos hn,List.map_cons,List.map_cons]
   cases hm : ne2 (delP c p) with
   | true => rw [List.filter_cons_of_pos hm,List.filter_cons_of_pos hm,ih]
   | false => rw [List.filter_cons_of_neg (by rw [hm];decide),List.filter_cons_of_neg (by rw [hm];decide),ih]
  | false =>
   have h0 : ne2 (delP c p) = false:=by
    unfold ne2 neR at hn ⊢
    cases hp : p.2 with
    | nil => unfold delP;rw [hp];rfl
    | cons a b => rw [hp] at hn;cases hn
   rw [List.filter_cons_of_neg (by rw [hn];decide),List.map_cons,List.filter_cons_of_neg (by rw [h0];decide),ih]
theorem strsOf_map : ∀ l : List Str,strsOf (l.map PyData.str) = some l
 | [] => rfl
 | a :: l => by
  show (mapO asStr (l.map PyData.str)).map (a :: ·) = _
  rw [show mapO asStr (l.map PyData.str) = some l from strsOf_map l]
  rfl
theorem reps_rows {prog : Program} {w : World} {O : Addr → Prop} {h : Heap} : ∀ {ps : List (Addr × List Str)},RowsP h ps → (∀ p ∈ ps,¬ O p.1) → RepAll prog w O h (ps.map fun p => .ref p.1) (ps.map fun p => rowT p.2)
 | [],_,_ => .nil
 | p :: ps,r,o => by
  obtain ⟨vs,l,sa⟩:=r p List.mem_cons_self
  exact .cons (.list (o p List.mem_cons_self) l (strsAre_rep sa)) (reps_rows (fun q hq => r q (List.mem_cons_of_mem _ hq)) fun q hq => o q (List.mem_cons_of_mem _ hq))
section
variable {prog : Program} {w : World} {T : Tab} {hb : Heap} {mg mb : Str → Option Value} {cl : Str → Option Value} {n : Nat} {A : Around} {r : Evs}
variable {hM : Heap} {env : Env} {s : Shared} {O : Addr → Prop} {E : Value → Shared → Prop}
theorem RowsP.keep {h h' : Heap} {ps : List (Addr × List Str)} (x : RowsP h ps) (k : Keep h h') : RowsP h' ps:=fun p hp => let ⟨vs,l,sa⟩:=x p hp;⟨vs,l.keepK k,sa⟩
theorem RowsP.off {h h' : Heap} {J : Addr → Prop} {ps : List (Addr × List Str)} (x : RowsP h ps) (k : KeepBut J h h') (hJ : ∀ p ∈ ps,¬ J p.1) : RowsP h' ps:=fun p hp => let ⟨vs,l,sa⟩:=x p hp;⟨vs,l.off k (hJ p hp),sa⟩
structure C3I (prog : Program) (w : World) (hb hM : Heap) (env : Env) (A : Around) (O : Addr → Prop) (R S : Addr) (ads : List Addr) (res : List Str) (ps qs : List (Addr × List Str)) (h : Heap) : Prop where
 F : Fx prog w hb c3F.names hM O h env []
 K : Stk hb A h
 nO : ∀ a ∈ ads,¬ O a
 oR : O R
 rv : VarIs h env c3F.names (Str.ofString "result") (.ref R)
 rl : ∃ us,PL h R us ∧ StrsAre us res
 sv : VarIs h env c3F.names (Str.ofString "sequences") (.ref S)
 sl : PL h S (qs.map fun p => .ref p.1)
 nS : ¬ O S
 rp : RowsP h ps
theorem slot_O {sc : Names} {ρ : Vars} {h : Heap} (F : Fx prog w hb sc hM O h env ρ) {a : Addr} (z : Sl env a) : O a:=F.F.slot z
theorem C3I.keep {h h' : Heap} {R S : Addr} {ads : List Addr} {res : List Str} {ps qs : List (Addr × List Str)} (x : C3I prog w hb hM env A O R S ads res ps qs h) (k : Keep h h') : C3I prog w hb hM env A O R S ads res ps qs h' :=
 ⟨x.F.keeps k,x.K.keep k,x.nO,x.oR,x.rv.keep k,let ⟨us,l,sa⟩:=x.rl;⟨us,l.keepK k,sa⟩,x.sv.keep k,x.sl.keepK k,x.nS,x.rp.keep k⟩
set_option maxRecDepth 10000 in
theorem c3Filter (rm : Rm false hb 40 A) {R S : Addr} {ads : List Addr} {res : List Str} {ps qs : List (Addr × List Str)} (hads : ps.map (·.1) = ads) (hok : ∀ p ∈ ps,OkRow p.2) (hqs : ∀ q ∈ qs,q ∈ ps) (hqf : qs.filter ne2 = ps.filter ne2) (hql : qs.length ≤ 1000)
  (hnd : ads.Nodup) (nSR : ¬ Sl env R) (x : C3I prog w hb hM env A O R S ads res ps qs s.heap) {Q : Flow → Shared → Prop}
  (hQ : ∀ S' h' tk,C3I prog w hb hM env A O R S' ads res ps (ps.filter ne2) h' → Q .next { s with heap:=h',toks:=tk }) : wpAny (model prog w) A (exec (c3St 0) env) Q E s:=by
 have hl1 : env.kindOf (Str.ofString "sequences") = some .local:=x.F.F.loc _ (by kernel_rfl)
 have eS : c3St 0 = c3St 0:=rfl
 conv at eS => rhs;whnf
 rw [eS]
 clear eS
 have tab : ∀ p ∈ ps,∃ vs,PL s.heap p.1 vs ∧ StrsAre vs p.2:=x.rp
 classical
 let p : Value → Bool:=fun v => match v with | .ref a => (ps.any fun q => q.1 == a && ne2 q) | _ => false
 have hpv : ∀ q ∈ ps,p (.ref q.1) = ne2 q:=fun q hq => by
  show (ps.any fun q' => q'.1 == q.1 && ne2 q') = ne2 q
  cases hn : ne2 q with
  | true => rw [List.any_eq_true];exact ⟨q,hq,by simp [hn]⟩
  | false =>
   rw [List.any_eq_false]
   intro q' hq' hc
   simp only [Bool.and_eq_true,beq_iff_eq] at hc
   have : q' = q:=by
    have nd:=hnd
    rw [← hads] at nd
    exact nodup_inj nd hq' hq hc.1
   rw [this,hn] at hc
   exact absurd hc.2 (by decide)
 refine filterComp_rule (S:=S) (vs:=qs.map fun p => .ref p.1) (rm.hand rfl) x.F.F ?_ (by decide +kernel) (by decide +kernel) rfl (by decide +kernel) (by decide +kernel) (by decide +kernel) (by kernel_rfl) (fun ζ => rfl)
  (fun Q' hq' => x.sv.name x.F.F hq') x.sl (by simp;omega) p (fun v hv => ?_) fun D h' tk hD pl F' k kp vi => ?_
 ·unfold swapsWith
  simp only [Env.blockKind,x.F.F.kind,hl1,ScopeKind.isAnnotationScope]
  rfl
 ·obtain ⟨q,hq,rfl⟩:=lMp hv
  obtain ⟨vs,l,sa⟩:=tab q (hqs q hq)
  refine ⟨q.1,vs,rfl,l,by have:=(hok q (hqs q hq)).1;have:=strsAre_length sa;omega,?_⟩
  rw [hpv q (hqs q hq)]
  unfold ne2 neR
  generalize q.2 = xs at sa
  cases sa <;> rfl
 ·have hfil : (qs.map fun p => Value.ref p.1).filter p = (ps.filter ne2).map fun p => .ref p.1:=by
   rw [← hqf,List.filter_map]
   congr 1
   apply List.filter_congr
   intro q hq
   exact hpv q (hqs q hq)
  rw [hfil] at pl
  have kS : KeepBut (Sl env) s.heap h':=k.mono fun b z => z.2
  have nS : ∀ a,¬ O a → ¬ Sl env a:=fun a h z => h (slot_O x.F z)
  refine hQ D h' tk ⟨⟨F',x.F.kb,x.F.onew⟩,x.K.off x.F.F kS kp.lc fun a z => .inl z,x.nO,x.oR,kp.vk _ _ (by decide +kernel) x.rv,?_,vi,pl,x.F.F.old.not hD,x.rp.off kS fun p hp => nS _ (x.nO _ (hads ▸ lMr ⟨p,hp,rfl⟩))⟩
  obtain ⟨us,l,sa⟩:=x.rl
  exact ⟨us,l.off kS nSR,sa⟩
theorem st_search (x : String) (h : x ≠ "s1" ∧ x ≠ "candidate" ∧ x ≠ "s2") : Str.ofString x ∉ stS search:=by
 have e : stS search = [Str.ofString "s1",Str.ofString "candidate",Str.ofString "s2",Str.ofString "candidate"]:=rfl
 rw [e]
 simp only [List.mem_cons,ofString_iff,List.not_mem_nil,or_false]
 rintro (q | q | q | q)
 ·exact h.1 q
 ·exact h.2.1 q
 ·exact h.2.2 q
 ·exact h.2.1 q
structure RowsOk (ads : List Addr) (ps : List (Addr × List Str)) : Prop where
 as : ps.map (·.1) = ads
 ok : ∀ p ∈ ps,OkRow p.2
 nd : ads.Nodup
 len : ads.length ≤ 1000
theorem RowsOk.mem {ads : List Addr} {ps : List (Addr × List Str)} (r : RowsOk ads ps) {q : Addr × List Str} (hq : q ∈ ps) : q.1 ∈ ads:=r.as ▸ lMr ⟨q,hq,rfl⟩
theorem RowsOk.lf {ads : List Addr} {ps : List (Addr × List Str)} (r : RowsOk ads ps) : (ps.filter ne2).length ≤ 1000 :=
 Nat.le_trans (List.length_filter_le _ _) (List.length_map (as:=ps) (fun p : Addr × List Str => p.1) ▸ r.as ▸ r.len)
theorem ne_sub {ps : List (Addr × List Str)} {q : Addr × List Str} (hq : q ∈ ps.filter ne2) : q ∈ ps:=(fMp hq).1
theorem ne_ne {ps : List (Addr × List Str)} {q : Addr × List Str} (hq : q ∈ ps.filter ne2) : q.2 ≠ []:=fun h0 => by
 have:=(fMp hq).2
 unfold ne2 neR at this
 rw [h0] at this;cases this
theorem ne_nil {q : Addr × List Str} (h : ne2 q = false) : q.2 = []:=by
 unfold ne2 neR at h
 cases hp : q.2 with
 | nil => rfl
 | cons a b => rw [hp] at h;cases h
theorem C3I.seqs {h : Heap} {R S : Addr} {ads : List Addr} {res : List Str} {ps : List (Addr × List Str)} (x : C3I prog w hb hM env A O R S ads res ps (ps.filter ne2) h) (r : RowsOk ads ps) :
  Fx prog w hb c3F.names hM O h env [(Str.ofString "sequences",rowsT ((ps.filter ne2).map (·.2)))] :=
 x.F.withVar (fun ζ z => z) (fun b z => slot_O x.F z) x.sv (.list x.nS x.sl (by rw [List.map_map];exact reps_rows (fun q hq => x.rp q (ne_sub hq)) fun p hp => x.nO _ (r.mem (ne_sub hp))))
set_option maxRecDepth 10000 in
theorem c3Search (AO : ∀ k,AllOk prog w T hb mg mb cl k (evs T k)) (XE : ExcsOk T hb mg cl) (rm : Rm false hb 40 A) {ads : List Addr} (hlen : ads.length ≤ 1000) {R S : Addr} (nSR : ¬ Sl env R) {res : List Str} {ps : List (Addr × List Str)} (hads : ps.map (·.1) = ads) (hok : ∀ p ∈ ps,OkRow p.2)
  (hne : (ps.filter ne2).isEmpty = false) (x : C3I prog w hb hM env A O R S ads res ps (ps.filter ne2) s.heap) {Q : Flow → Shared → Prop} {rest : List Stmt}
  (hQ : ∀ O' h' tk ρ',C3I prog w hb hM env A O' R S ads res ps (ps.filter ne2) h' → Fx prog w hb c3F.names hM O' h' env ρ' → ρ'.lookup (Str.ofString "candidate") = some (match c3pick (ps.map (·.2)) with | some c => .str c | none => .none) →
   wpAny (model prog w) A (execs rest env) Q E { s with heap:=h',toks:=tk }) : wpAny (model prog w) A (execs (c3St 2 :: rest) env) Q E s:=by
 have hsub : ∀ q ∈ ps.filter ne2,q ∈ ps:=fun q hq => (fMp hq).1
 have hmem : ∀ q ∈ ps,q.1 ∈ ads:=fun q hq => hads ▸ lMr ⟨q,hq,rfl⟩
 have hlp : ps.length ≤ 1000:=by rw [← hads,List.length_map] at hlen;exact hlen
 have hlf : (ps.filter ne2).length ≤ 1000:=Nat.le_trans (List.length_filter_le _ _) hlp
 have rpf : RowsP s.heap (ps.filter ne2):=fun q hq => x.rp q (hsub q hq)
 have F₁ : Fx prog w hb c3F.names hM O s.heap env [(Str.ofString "sequences",rowsT ((ps.filter ne2).map (·.2)))] :=
  x.F.withVar (fun ζ z => z) (fun b z => slot_O x.F z) x.sv (.list x.nS x.sl (by
   have:=reps_rows (prog:=prog) (w:=w) (O:=O) rpf fun p hp => x.nO _ (hmem p (hsub p hp))
   rw [List.map_map];exact this))
 have hp : c3pick (ps.map (·.2)) = c3find ((ps.filter ne2).map (·.2)) ((ps.filter ne2).map (·.2)):=by
  unfold c3pick
  rw [List.filter_map];rfl
 obtain ⟨ρ',h1,h2⟩:=search_eq (T:=T) 0 ((ps.filter ne2).map (·.2)) (fun r hr => by obtain ⟨q,hq,rfl⟩:=lMp hr;exact hok q (hsub q hq))
  (fun r hr => by
   obtain ⟨q,hq,rfl⟩:=lMp hr
   have:=(fMp hq).2
   intro h0
   unfold ne2 neR at this
   rw [h0] at this;cases this)
  (fun h0 => by rw [List.map_eq_nil_iff] at h0;rw [h0] at hne;cases hne) [(Str.ofString "sequences",rowsT ((ps.filter ne2).map (·.2)))] (by rw [lookup_cons_eq,if_pos rfl])
 rw [← hp] at h2
 have q₀ : Fs prog w hb c3F.names hM O s.heap env ⟨[(Str.ofString "sequences",rowsT ((ps.filter ne2).map (·.2)))],none⟩ none:=⟨F₁,.inl ⟨rfl,rfl⟩⟩
 refine execs_cons (stmtE_ok (AO 20).bd XE (AO 20).ss c3F.names none _ _ _ h1 (stS search) (fun ζ h => h) A s env hM O none _ _ (rm.le (by omega)) (fun ζ ζ e => nomatch e) q₀ x.K (fun out σ' e => ?_) (fun ζ e => by cases e))
 cases e
 intro O' h' tk oa' fl hfl aft
 cases hfl
 have kS : KeepBut (Sl env) s.heap h':=aft.keep.mono fun b z => z.elim (fun z => z.2) fun z => nomatch z
 have ex : ∀ a,¬ O a → (∃ o,s.heap.get? a = some o) → ¬ O' a:=fun a h ⟨o,ho⟩ z => (aft.new a z).elim h fun q => by rw [ho] at q;cases q
 have nSl : ∀ a,¬ O a → ¬ Sl env a:=fun a h z => h (slot_O x.F z)
 have rowEx : ∀ q ∈ ps,∃ o,s.heap.get? q.1 = some o:=fun q hq => let ⟨_,⟨_,e⟩,_⟩:=x.rp q hq;⟨_,e⟩
 refine hQ O' h' tk ρ' ⟨aft.fs.F.vars (ρ':=[]) (fun ζ ζ e => nomatch e),aft.stk q₀ x.K,fun a ha => ?_,aft.sub _ x.oR,aft.vk _ _ (st_search "result" (by decide)) x.rv,?_,aft.vk _ _ (st_search "sequences" (by decide)) x.sv,x.sl.off kS (nSl _ x.nS),ex _ x.nS (let ⟨_,e⟩:=x.sl;⟨_,e⟩),
  x.rp.off kS fun p hp => nSl _ (x.nO _ (hmem p hp))⟩ aft.fs.F h2
 ·rw [← hads] at ha
  obtain ⟨q,hq,rfl⟩:=lMp ha
  exact ex _ (x.nO _ (hmem q hq)) (rowEx q hq)
 ·obtain ⟨us,l,sa⟩:=x.rl
  exact ⟨us,l.off kS nSR,sa⟩
set_option maxRecDepth 10000 in
theorem c3If1 (B : ∀ k,Bd prog w T hb mg mb cl k (evs T k)) (rm : Rm false hb 40 A) {R S : Addr} {ads : List Addr} {res : List Str} {ps : List (Addr × List Str)} (r : RowsOk ads ps) (x : C3I prog w hb hM env A O R S ads res ps (ps.filter ne2) s.heap) {Q : Flow → Shared → Prop}
  (hQ : ∀ h' tk,C3I prog w hb hM env A O R S ads res ps (ps.filter ne2) h' → Q (if (ps.filter ne2).isEmpty = true then .ret (.ref R) else .next) { s with heap:=h',toks:=tk }) : wpAny (model prog w) A (exec (c3St 1) env) Q E s:=by
 have eI : c3St 1 = c3St 1:=rfl
 conv at eI => rhs;whnf
 have tst : (evs T 10).tr c3F.names _ (ifT (c3St 1)) = some (ps.filter ne2).isEmpty:=(c3_empty (T:=T) 0 ((ps.filter ne2).map (·.2)) (by rw [List.length_map];exact r.lf) [(Str.ofString "sequences",rowsT ((ps.filter ne2).map (·.2)))] rfl).trans (by rw [List.isEmpty_map])
 rw [eI] at tst ⊢
 refine wpAny_If ((B 10).tr _ _ _ _ tst A s env hM O _ _ (rm.le (by omega)) (x.seqs r) x.K fun s₂ p => ?_)
 obtain ⟨h₂,tk₂,rfl,k2⟩:=p
 have h:=hQ h₂ tk₂ (x.keep k2)
 have x₂:=x.keep k2
 clear hQ tst eI
 cases he : (ps.filter ne2).isEmpty with
 | true =>
  rw [he,if_pos rfl] at h
  exact execs_cons (wpAny_Return_some (x₂.rv.name x₂.F.F h))
 | false =>
  rw [he,if_neg Bool.false_ne_true] at h
  exact wpAny_pure h
set_option maxRecDepth 10000 in
theorem c3If3 (AO : ∀ k,AllOk prog w T hb mg mb cl k (evs T k)) (rm : Rm false hb 40 A) (hmg : mg (Str.ofString "RuntimeError") = none) (hmb : mb (Str.ofString "RuntimeError") = some (.type "RuntimeError")) {ρ : Vars} {fc : Option Str} (F : Fx prog w hb c3F.names hM O s.heap env ρ) (K : Stk hb A s.heap)
  (hc : ρ.lookup (Str.ofString "candidate") = some (match fc with | some c => .str c | none => .none)) {Q : Flow → Shared → Prop} (hQ : fc.isSome = true → ∀ h' tk,Keep s.heap h' → Q .next { s with heap:=h',toks:=tk })
  (hE : fc = none → ∀ h₁ h' tk e,Keep s.heap h₁ → Made' h₁ h' e (.type "RuntimeError") (Str.ofString "Inconsistent hierarchy") → E (.ref e) { s with heap:=h',toks:=tk }) : wpAny (model prog w) A (exec (c3St 3) env) Q E s:=by
 have eI : c3St 3 = c3St 3:=rfl
 conv at eI => rhs;whnf
 have tst:=c3_isnone (T:=T) 0 fc ρ hc
 rw [eI] at tst ⊢
 refine wpAny_If ((AO 10).bd.tr _ _ _ _ tst A s env hM O _ _ (rm.le (by omega)) F K fun s₂ p => ?_)
 obtain ⟨h₂,tk₂,rfl,k2⟩:=p
 clear tst eI
 cases fc with
 | some c => exact wpAny_pure (hQ rfl h₂ tk₂ k2)
 | none =>
  have F₂:=F.keeps k2
  have hre : c3F.names.lookup (Str.ofString "RuntimeError") = some .globalImplicit:=by kernel_rfl
  have hel : ∀ k p,evList (evs T 10) c3F.names ρ [.Constant (.str (Str.ofString "Inconsistent hierarchy")) k p] = some [.str (Str.ofString "Inconsistent hierarchy")]:=fun k p => evList_one rfl rfl
  have hE:=hE rfl
  refine execs_cons (wpAny_Raise_call PySem.F.excCall_RuntimeError PySem.F.excRaise_RuntimeError (rm.hand rfl) (any_false (hel _ _)) ?_)
  refine Calls.Name_function_global F₂.F.kind (F₂.F.glo _ hre) (Calls.loadGlobal_builtin (by rw [F₂.F.glob];exact ns_keep (AO 0).bd.G.g F₂.base) hmg (by rw [F₂.F.blt];exact ns_keep (AO 0).bd.G.b F₂.base) hmb ⟨rfl,?_⟩) (dbg (s:={ s with heap:=h₂,toks:=tk₂ }) F₂ hre)
  exact evArgs_ok (AO 10).bd.ex (rm.le (by omega)) (hel _ _) F₂ (K.keep k2) fun vs h₃ tk₃ k3 rs => ⟨rfl,(by rw [rs.length,sizeLine_eq];decide),fun h₄ e hm => by
   obtain ⟨u,us',rfl,r1,r0⟩:=rs.is
   rw [show us' = [] from r0.is] at hm
   obtain ⟨tt,rfl⟩:=r1.is
   exact hE h₃ h₄ tk₃ e (k2.trans k3) ⟨tt,hm.of⟩⟩
set_option maxRecDepth 10000 in
theorem c3App (AO : ∀ k,AllOk prog w T hb mg mb cl k (evs T k)) (XE : ExcsOk T hb mg cl) (rm : Rm false hb 40 A) {R S : Addr} (hMR : hM.get? R = none) (nSR : ¬ Sl env R) {ads : List Addr} {res : List Str} {c : Str} (hlen : res.length < 1000000) {ps : List (Addr × List Str)} (r : RowsOk ads ps) (x : C3I prog w hb hM env A O R S ads res ps (ps.filter ne2) s.heap)
  (F : Fx prog w hb c3F.names hM O s.heap env [(Str.ofString "candidate",.str c)]) {Q : Flow → Shared → Prop}
  (hQ : ∀ O' h' tk,C3I prog w hb hM env A O' R S ads (res ++ [c]) ps (ps.filter ne2) h' → Fx prog w hb c3F.names hM O' h' env [(Str.ofString "candidate",.str c)] → Q .next { s with heap:=h',toks:=tk }) : wpAny (model prog w) A (exec (c3St 4) env) Q E s:=by
 obtain ⟨us,lR,saR⟩:=x.rl
 have q₂ : Fs prog w hb c3F.names hM O s.heap env ⟨[(Str.ofString "candidate",.str c)],some (Str.ofString "result",res.map PyData.str)⟩ (some R):=⟨F,.inr ⟨_,_,_,_,rfl,rfl,⟨x.oR,hMR,nSR,lR,strsAre_rep saR,x.rv,by kernel_rfl⟩⟩⟩
 refine stmtE_ok (AO 20).bd XE (AO 20).ss c3F.names (some (Str.ofString "result")) _ _ _ (c3_append (T:=T) 10 c (res.map PyData.str) (by rw [List.length_map];unfold lim;omega)) (stS (c3St 4)) (fun ζ h => h) A s env hM O (some R) _ _ (rm.le (by omega)) (fun y es e => by cases e;rfl) q₂ x.K (fun out σ' e => ?_) nofun
 cases e
 intro O₃ h₃ tk₃ oa₃ fl hfl aft
 cases hfl
 obtain rfl : oa₃ = some R:=aft.own R rfl
 obtain ⟨R',us₃,e1,g⟩:=own_at aft.fs rfl
 obtain rfl:=Option.some.inj e1
 have sa₃ : StrsAre us₃ (res ++ [c]):=g.rs.strs (by rw [show res.map PyData.str ++ [PyData.str c] = (res ++ [c]).map PyData.str from (List.map_append (f:=PyData.str) (l₁:=res) (l₂:=[c])).symm];exact strsOf_map _)
 have k₃ : KeepBut (fun b => Sl env b ∨ b = R) s.heap h₃:=aft.keep.mono fun b z => z.elim (fun z => .inl z.2) fun z => .inr (Option.some.inj z).symm
 have neR' : ∀ a,¬ O a → ¬ (Sl env a ∨ a = R):=fun a h z => z.elim (fun z => h (slot_O x.F z)) fun z => h (z ▸ x.oR)
 have ex : ∀ {a vs},¬ O a → PL s.heap a vs → ¬ O₃ a:=fun h ⟨_,ho⟩ z => (aft.new _ z).elim h fun q => nomatch ho.symm.trans q
 exact hQ O₃ h₃ tk₃ ⟨aft.fs.F.vars (fun ζ ζ e => nomatch e),aft.stk q₂ x.K,fun a ha => (by
  rw [← r.as] at ha
  obtain ⟨q,hq,rfl⟩:=lMp ha
  obtain ⟨_,l,_⟩:=x.rp q hq
  exact ex (x.nO _ (r.mem hq)) l),g.o,g.vi,⟨us₃,g.pl,sa₃⟩,aft.vk _ _ (fun h => nomatch h) x.sv,x.sl.off k₃ (neR' _ x.nS),ex x.nS x.sl,x.rp.off k₃ fun p hp => neR' _ (x.nO _ (r.mem hp))⟩ aft.fs.F
set_option maxRecDepth 10000 in
theorem c3Del (B : ∀ k,Bd prog w T hb mg mb cl k (evs T k)) (rm : Rm false hb 40 A) {R S : Addr} (nSR : ¬ Sl env R) {ads : List Addr} (hMa : ∀ a ∈ ads,hM.get? a = none) {res : List Str} {c : Str} {ps : List (Addr × List Str)} (r : RowsOk ads ps) (x : C3I prog w hb hM env A O R S ads res ps (ps.filter ne2) s.heap)
  (F : Fx prog w hb c3F.names hM O s.heap env [(Str.ofString "candidate",.str c)]) {Q : Flow → Shared → Prop}
  (hQ : ∀ h' tk,C3I prog w hb hM env A O R S ads res (ps.map (delP c)) ((ps.filter ne2).map (delP c)) h' → Q .next { s with heap:=h',toks:=tk }) : wpAny (model prog w) A (exec (c3St 5) env) Q E s:=by
 have eD : c3St 5 = c3St 5:=rfl
 conv at eD => rhs;whnf
 rw [eD]
 clear eD
 have rpn : ∀ {a p},p ∈ ps → s.heap.get? a = none → p.1 ≠ a:=fun hp ha q => let ⟨_,⟨_,e⟩,_⟩:=x.rp _ hp;nomatch (q ▸ ha).symm.trans e
 refine wpAny_For (x.sv.name F.F (wpAny_pyIter_list x.sl.isList ?_))
 have kI : Keep s.heap (s.heap.push { cls:=.type "list_iterator",data:=.fields #[.ref S,.int 0 0] }):=Keep.push _ _
 have hIat:=Heap.get?_push_size s.heap (o:={ cls:=.type "list_iterator",data:=.fields #[.ref S,.int 0 0] }) rfl
 have hIn:=fresh_size s.heap
 show codeAny _ _ _ _ { s with heap:=s.heap.push _ }
 generalize s.heap.push { cls:=.type "list_iterator",data:=.fields #[.ref S,.int 0 0] } = h₄ at kI hIat ⊢
 show codeAny _ _ (.forLoop _ (.ref s.heap.objs.size) _ _ _) _ _
 generalize s.heap.objs.size = I at hIat hIn ⊢
 have hIS : I ≠ S:=fun q => let ⟨_,e⟩:=x.sl;nomatch (q ▸ hIn).symm.trans e
 have hqS : ∀ p ∈ ps.filter ne2,p.1 ≠ S:=fun p hp q => by
  obtain ⟨vs,l,sa⟩:=x.rp p (ne_sub hp)
  have e:=l.uniq (q ▸ x.sl)
  obtain ⟨n0,tl,e2⟩:=List.exists_cons_of_ne_nil (List.ne_nil_of_mem hp)
  rw [e,e2] at sa
  cases sa
 have nSl : ∀ a,¬ O a → ¬ Sl env a:=fun a h z => h (slot_O F z)
 obtain ⟨m₃,hn₃⟩:=F.ns
 refine delLoop_ok B (rm.le (by omega)) r.lf (fun p hp => ⟨ne_ne hp,(r.ok p (ne_sub hp)).1⟩) (List.Nodup.sublist (List.Sublist.map _ List.filter_sublist) (r.as ▸ r.nd)) (fun p hp => rpn (ne_sub hp) hIn) hqS (fun p hp => hMa _ (r.mem (ne_sub hp))) (F.F.keep.none hIn) (fun z => by obtain ⟨o,ho⟩:=F.slot_old z;exact nomatch hIn.symm.trans ho) (nSl _ x.nS) hIS hIn
  (ps.filter ne2) 0 rfl (Nat.zero_le _) { s with heap:=h₄ } _ (F.keeps kI) (x.K.keep kI) (fun p hp => x.nO _ (r.mem (ne_sub hp))) (F.F.old.not hIn) ⟨_,hIat,rfl,rfl⟩ (x.sl.keepK kI) (fun p hp => nomatch hp)
  (fun p hp => x.rp.keep kI p (ne_sub hp)) ((Kept.of_keep hn₃ kI).mono fun y hy => nomatch hy) kI.but fun h₅ tk₅ F₅ sl₅ rp₅ kp₅ k₅ => hQ h₅ tk₅ ?_
 refine ⟨F₅.vars (fun ζ ζ e => nomatch e),x.K.off F.F k₅ kp₅.lc fun a z => z.imp id fun ⟨q,hq,e⟩ o ho => ?_,x.nO,x.oR,kp₅.vk _ _ (by decide +kernel) x.rv,(let ⟨us,l,sa⟩:=x.rl;⟨us,l.off k₅ fun z => z.elim nSR fun ⟨p,hp,e⟩ => x.nO _ (r.mem (ne_sub hp)) (e ▸ x.oR),sa⟩),
  kp₅.vk _ _ (by decide +kernel) x.sv,(List.map_map (l:=ps.filter ne2)) ▸ sl₅.off (J:=fun ζ => False) (KeepBut.refl _ _) id,x.nS,fun p' hp' => ?_⟩
 ·obtain ⟨_,⟨_,e'⟩,_⟩:=x.rp q (ne_sub hq)
  rw [e,ho] at e';obtain rfl:=Option.some.inj e';simp
 ·obtain ⟨p,hp,rfl⟩:=lMp hp'
  cases hn : ne2 p with
  | true => exact rp₅ _ (lMr ⟨p,fMr ⟨hp,hn⟩,rfl⟩)
  | false =>
   obtain ⟨vs,l,sa⟩:=x.rp p hp
   refine ⟨vs,l.off k₅ fun z => z.elim (nSl _ (x.nO _ (r.mem hp))) fun ⟨q,hq,e⟩ => ?_,?_⟩
   ·rw [← nodup_inj (f:=fun p : Addr × List Str => p.1) (r.as ▸ r.nd) (ne_sub hq) hp e] at hn
    exact Bool.false_ne_true (hn.symm.trans (fMp hq).2)
   ·show StrsAre vs (c3del c p.2)
    rw [ne_nil hn] at sa ⊢
    exact sa
theorem RowsOk.del {ads : List Addr} {ps : List (Addr × List Str)} (r : RowsOk ads ps) (c : Str) : RowsOk ads (ps.map (delP c)) :=
 ⟨by rw [List.map_map,← r.as];rfl,fun p' hp' => by
  obtain ⟨p,hp,rfl⟩:=lMp hp'
  exact ⟨Nat.le_trans (del_len c p.2) (r.ok p hp).1,fun y hy => (r.ok p hp).2 y (del_sub hy)⟩,r.nd,r.len⟩
theorem fil_map (ps : List (Addr × List Str)) : (ps.map (·.2)).filter neR = (ps.filter ne2).map (·.2):=by rw [List.filter_map];rfl
set_option maxRecDepth 10000 in
set_option tactic.hygienic true in
theorem c3Loop (AO : ∀ k,AllOk prog w T hb mg mb cl k (evs T k)) (XE : ExcsOk T hb mg cl) (rm : Rm false hb 40 A) {ads : List Addr} (hMa : ∀ a ∈ ads,hM.get? a = none) {R : Addr} (hMR : hM.get? R = none) (nSR : ¬ Sl env R)
  (hmg : mg (Str.ofString "RuntimeError") = none) (hmb : mb (Str.ofString "RuntimeError") = some (.type "RuntimeError")) :
  ∀ {rows : List (List Str)} {res : List Str} {out : Option (List Str)} {rest : List (List Str)},C3 rows res out rest → ∀ (ps qs : List (Addr × List Str)) (S : Addr) (O : Addr → Prop) (s : Shared) (W : Result → Shared → Prop),
   ps.map (·.2) = rows → RowsOk ads ps → res.length + (rows.map List.length).sum ≤ 1000000 → (∀ q ∈ qs,q ∈ ps) → qs.filter ne2 = ps.filter ne2 → qs.length ≤ 1000 → C3I prog w hb hM env A O R S ads res ps qs s.heap →
   (∀ (fin : List (Addr × List Str)) res' h' tk us',out = some res' → fin.map (·.1) = ads → fin.map (·.2) = rest → Keep hM h' → PL h' R us' → StrsAre us' res' → RowsP h' fin → W (.ok (.ret (.ref R))) { s with heap:=h',toks:=tk }) →
   (out = none → ∀ (fin : List (Addr × List Str)) h₁ h' tk e,fin.map (·.1) = ads → fin.map (·.2) = rest → Keep hM h₁ → RowsP h₁ fin → Stk hb A h₁ → Made' h₁ h' e (.type "RuntimeError") (Str.ofString "Inconsistent hierarchy") → notedBy (model prog w) A env (fun e s' => W (.error e) s') (.ref e) { s with heap:=h',toks:=tk }) →
   codeAny (model prog w) A (.whileLoop (whT c3W) (whB c3W) [] env) W s:=by
 have turn : ∀ (ps qs : List (Addr × List Str)) (S : Addr) (O : Addr → Prop) (s : Shared) (res : List Str) (W : Result → Shared → Prop),RowsOk ads ps → (∀ q ∈ qs,q ∈ ps) → qs.filter ne2 = ps.filter ne2 → qs.length ≤ 1000 → C3I prog w hb hM env A O R S ads res ps qs s.heap →
   ((ps.filter ne2).isEmpty = true → ∀ S' h' tk,C3I prog w hb hM env A O R S' ads res ps (ps.filter ne2) h' → W (.ok (.ret (.ref R))) { s with heap:=h',toks:=tk }) →
   ((ps.filter ne2).isEmpty = false → ∀ S' h' tk (Q : Flow → Shared → Prop) (E : Value → Shared → Prop),C3I prog w hb hM env A O R S' ads res ps (ps.filter ne2) h' → (∀ s₃,codeAny (model prog w) A (.whileLoop (whT c3W) (whB c3W) [] env) W s₃ → Q .next s₃) → (∀ e s₃,notedBy (model prog w) A env (fun e s' => W (.error e) s') e s₃ → E e s₃) →
    wpAny (model prog w) A (execs [c3St 2,c3St 3,c3St 4,c3St 5] env) Q E { s with heap:=h',toks:=tk }) →
   codeAny (model prog w) A (.whileLoop (whT c3W) (whB c3W) [] env) W s:=by
  intro ps qs S O s res W r hqs hqf hql x h1 h2
  refine whileLoop_step ((AO 10).bd.tr _ _ _ _ (c3_test 5 []) A s env hM O _ _ (rm.le (by omega)) x.F x.K fun s₁ p => ?_)
  obtain ⟨h₁,tk₁,rfl,k1⟩:=p
  rw [if_pos rfl,show whB c3W = [c3St 0,c3St 1,c3St 2,c3St 3,c3St 4,c3St 5] from rfl]
  refine execs_cons (c3Filter (s:={ s with heap:=h₁,toks:=tk₁ }) rm r.as r.ok hqs hqf hql r.nd nSR (x.keep k1) fun S' h' tk x' => ?_)
  refine execs_cons (c3If1 (s:={ s with heap:=h',toks:=tk }) (fun k => (AO k).bd) rm r x' fun h₂ tk₂ x₂ => ?_)
  cases he : (ps.filter ne2).isEmpty with
  | true => exact h1 he S' h₂ tk₂ x₂
  | false => exact h2 he S' h₂ tk₂ _ _ x₂ (fun ζ h => h) fun ζ ζ h => h
 intro rows res out rest hC
 induction hC with
 | done rows res hall =>
  intro ps qs S O s W hrows r hbnd hqs hqf hql x hQ hE
  refine turn ps qs S O s res W r hqs hqf hql x (fun ζ S' h' tk x' => ?_) (fun hf => ?_)
  ·obtain ⟨us,l,sa⟩:=x'.rl
   exact hQ ps res h' tk us rfl r.as hrows x'.F.F.keep l sa x'.rp
  ·obtain ⟨p,hp⟩:=List.exists_mem_of_ne_nil _ (List.isEmpty_eq_false_iff.mp hf)
   exact absurd (hall p.2 (hrows ▸ lMr ⟨p,ne_sub hp,rfl⟩)) (ne_ne hp)
 | fail rows res hex hpick =>
  intro ps qs S O s W hrows r hbnd hqs hqf hql x hQ hE
  refine turn ps qs S O s res W r hqs hqf hql x (fun ht => ?_) (fun hemp S' h' tk Q E x' hn he => ?_)
  ·obtain ⟨y,hy,hne⟩:=hex
   have:=fil_map ps
   rw [List.isEmpty_iff.mp ht,hrows] at this
   exact absurd (this ▸ fMr ⟨hy,by unfold neR;cases y with | nil => exact absurd rfl hne | cons => rfl⟩) List.not_mem_nil
  ·refine c3Search (s:={ s with heap:=h',toks:=tk }) AO XE rm r.len nSR r.as r.ok hemp x' fun O' h₁ tk₁ ρ' x₁ F₁ hcand => ?_
   rw [hrows,hpick] at hcand
   exact execs_cons (c3If3 (s:={ s with heap:=h₁,toks:=tk₁ }) (fc:=none) AO rm hmg hmb F₁ x₁.K hcand nofun fun ζ h₃ h₄ tk₄ e k m => he _ _ (hE rfl ps h₃ h₄ tk₄ e r.as hrows (x₁.F.F.keep.trans k) (x₁.rp.keep k) (x₁.K.keep k) m))
 | step rows res c out rest hpick hC ih =>
  intro ps qs S O s W hrows r hbnd hqs hqf hql x hQ hE
  obtain ⟨t0,hhead⟩:=find_head hpick
  have hhead' : (c :: t0) ∈ rows:=(fMp hhead).1
  refine turn ps qs S O s res W r hqs hqf hql x (fun ht => ?_) (fun hemp S' h' tk Q E x' hn he => ?_)
  ·rw [← hrows,fil_map,List.isEmpty_iff.mp ht] at hhead
   exact absurd hhead List.not_mem_nil
  ·refine c3Search (s:={ s with heap:=h',toks:=tk }) AO XE rm r.len nSR r.as r.ok hemp x' fun O' h₁ tk₁ ρ' x₁ F₁ hcand => ?_
   rw [hrows,hpick] at hcand
   have hsum:=del_sum hhead'
   refine execs_cons (c3If3 (s:={ s with heap:=h₁,toks:=tk₁ }) (fc:=some c) AO rm hmg hmb F₁ x₁.K hcand (fun ζ h₂ tk₂ k2 => ?_) nofun)
   have F₂ : Fx prog w hb c3F.names hM O' h₂ env [(Str.ofString "candidate",.str c)]:=(F₁.keeps k2).vars fun y d e => by
    rw [lookup_cons_eq] at e
    split at e
    ·rename_i hy;rw [hy,← e];exact hcand
    ·cases e
   refine execs_cons (c3App (s:={ s with heap:=h₂,toks:=tk₂ }) AO XE rm hMR nSR (by omega) r (x₁.keep k2) F₂ fun O₃ h₃ tk₃ x₃ F₃ => ?_)
   refine execs_cons (c3Del (s:={ s with heap:=h₃,toks:=tk₃ }) (fun k => (AO k).bd) rm nSR hMa r x₃ F₃ fun h₅ tk₅ x₅ => ?_)
   exact wpAny_of_eq (PySem.execs_nil env) (hn _ (ih (ps.map (delP c)) ((ps.filter ne2).map (delP c)) S' O₃ { s with heap:=h₅,toks:=tk₅ } W (by rw [List.map_map,← hrows,List.map_map];rfl) (r.del c) (by rw [List.length_append,List.length_singleton];omega)
    (fun q hq => (by obtain ⟨p,hp,rfl⟩:=lMp hq;exact lMr ⟨p,ne_sub hp,rfl⟩)) (filter_del c ps) (by rw [List.length_map];exact r.lf) x₅ hQ hE))
end
end
section
variable [bs : Base]
noncomputable def c3A : Stmt:=nth c3F.body 0
set_option maxRecDepth 10000 in
theorem c3_start {T : Tab} (n : Nat) : stmtE T (evs T (n + 10)) c3F.names (some (Str.ofString "result")) ⟨[],none⟩ c3A = some (.ok (.next,⟨[],some (Str.ofString "result",[])⟩)):=by kernel_rfl
section
variable {prog : Program} {w : World} {T : Tab} {hb : Heap} {mg mb : Str → Option Value} {cl : Str → Option Value} {n : Nat} {A : Around} {s : Shared} {E : Value → Shared → Prop}
theorem mask_keep {h : Heap} {l : List Addr} : Keep (mask h l) h:=.of fun ζ ζ e => (mask_some e).1
theorem keep_unmask {h h' : Heap} {l : List Addr} (k : Keep (mask h l) h') : KeepBut (fun b => b ∈ l) h h':=fun b o nb e => k b o ((mask_other nb).trans e)
set_option maxRecDepth 10000 in
theorem c3_rule (AO : ∀ k,AllOk prog w T hb mg mb cl k (evs T k)) (XE : ExcsOk T hb mg cl) (FA : FnAt hb mg (Str.ofString "_c3_merge") c3F) (rm : Rm false hb 50 A) (kb : Keep hb s.heap) (K : Stk hb A s.heap)
  (hmg : mg (Str.ofString "RuntimeError") = none) (hmb : mb (Str.ofString "RuntimeError") = some (.type "RuntimeError"))
  {L : Addr} {ps : List (Addr × List Str)} (hL : PL s.heap L (ps.map fun p => .ref p.1)) (hR : RowsP s.heap ps) (nd : (ps.map (·.1)).Nodup) (newp : ∀ p ∈ ps,hb.get? p.1 = none) (hok : ∀ p ∈ ps,OkRow p.2) (hlen : ps.length ≤ 1000) (hbnd : ((ps.map (·.2)).map List.length).sum ≤ 1000000)
  {out : Option (List Str)} {rest : List (List Str)} (hc : C3 (ps.map (·.2)) [] out rest) {Q : Value → Shared → Prop}
  (hQ : ∀ (fin : List (Addr × List Str)) res h' tk R us,out = some res → fin.map (·.1) = ps.map (·.1) → fin.map (·.2) = rest → s.heap.get? R = none → PL h' R us → StrsAre us res → RowsP h' fin → KeepBut (fun b => b ∈ ps.map (·.1)) s.heap h' → Q (.ref R) { s with heap:=h',toks:=tk })
  (hE : out = none → ∀ (fin : List (Addr × List Str)) h₁ h' tk e,fin.map (·.1) = ps.map (·.1) → fin.map (·.2) = rest → RowsP h₁ fin → KeepBut (fun b => b ∈ ps.map (·.1)) s.heap h₁ → Fly2 h₁ h' e (.type "RuntimeError") (Str.ofString "Inconsistent hierarchy") .none → Lone h' e → E (.ref e) { s with heap:=h',toks:=tk }) :
  ∃ a,mg (Str.ofString "_c3_merge") = some (.ref a) ∧ (∃ o fd,hb.get? a = some o ∧ o.cls ≠ .type "frame" ∧ o.data = .func fd) ∧ wpAny (model prog w) A (call (.ref a) [.ref L]) Q E s:=by
 have hpar : c3F.params = [Str.ofString "sequences"]:=rfl
 have hbody : c3F.body = [c3A,c3W]:=rfl
 obtain ⟨a,ha,hd,call⟩:=fn_rule (prog:=prog) (w:=w) (R:=fun r s' => match r with | .ok (.ret v) => Q v s' | .ok _ => False | .error e => E e s') (O:=fun ζ => False) (ρ:=[]) FA (AO 0).bd.G.lim (rm.le (show 41 ≤ 50 by omega)) kb (fun ζ z => z.elim) (fun ζ z => z.elim) (vs:=[.ref L]) (by rw [hpar];rfl)
  (fun ζ ζ e => nomatch e) (fun env O₁ h₁ tk₁ ent => by
   have rm' : Rm false hb 40 (A.deeper env):=rm.le (show 41 ≤ 50 by omega) |>.deeper env
   have K₁:=ent.stk K
   obtain ⟨l,hl,_⟩:=id K
   have hfr : (A.deeper env).frames = some (env :: l):=by show A.frames.map _ = _;rw [hl];rfl
   have seqv:=ent.vars (Str.ofString "sequences") (.ref L) (by rw [hpar];exact List.mem_cons_self)
   have kM : Keep (mask s.heap (ps.map (·.1))) s.heap:=mask_keep
   have kbM : Keep hb (mask s.heap (ps.map (·.1))):=fun b o e => by
    obtain ⟨o',e',al⟩:=kb b o e
    refine ⟨o',(mask_other fun hm => ?_).trans e',al⟩
    obtain ⟨p,hp,rfl⟩:=lMp hm
    rw [newp p hp] at e;cases e
   have F₁ : Fx prog w hb c3F.names (mask s.heap (ps.map (·.1))) O₁ h₁ env []:=⟨FrI.older ent.F.F kM,kbM,ent.F.onew⟩
   have q₁ : Fs prog w hb c3F.names (mask s.heap (ps.map (·.1))) O₁ h₁ env ⟨[],none⟩ none:=⟨F₁,.inl ⟨rfl,rfl⟩⟩
   have o1n : ∀ b,O₁ b → s.heap.get? b = none:=fun b z => (ent.new b z).elim (fun z => z.elim) id
   rw [hbody]
   refine execs_cons (stmtE_ok (AO 20).bd XE (AO 20).ss c3F.names (some (Str.ofString "result")) _ _ _ (c3_start (T:=T) 10) [Str.ofString "result"] (fun x hx => hx) (A.deeper env) { s with heap:=h₁,toks:=tk₁ } env _ O₁ none _ _ (rm'.le (by omega)) (fun ζ ζ e => nomatch e) q₁ K₁ (fun out₁ σ' e => ?_) (fun ζ e => by cases e))
   cases e
   intro O₂ h₂ tk₂ oa fl hfl aft
   cases hfl
   obtain ⟨R,us,rfl,oR,hMR,nSR,lR,rsR,rvR,_⟩:=own_at aft.fs rfl
   have K₂:=aft.stk q₁ K₁
   have hRn : h₁.get? R = none:=(aft.ownN R rfl).elim (fun z => nomatch z) id
   have kS : KeepBut (Sl env) h₁ h₂:=aft.keep.mono fun b z => z.elim (fun z => z.2) fun z => nomatch z
   have kE : Keep s.heap h₁:=ent.keep
   have nO1 : ∀ b,(∃ o,s.heap.get? b = some o) → ¬ O₁ b:=fun b ⟨o,ho⟩ z => by rw [o1n b z] at ho;cases ho
   have nSl : ∀ b,(∃ o,s.heap.get? b = some o) → ¬ Sl env b:=fun b h z => nO1 b h (slot_O F₁ z)
   have nO2 : ∀ b,(∃ o,s.heap.get? b = some o) → ¬ O₂ b:=fun b h z => (aft.new b z).elim (nO1 b h) fun q => by
    obtain ⟨o,ho⟩:=h
    obtain ⟨o',ho',_⟩:=kE b o ho
    rw [q] at ho';cases ho'
   have exL : ∃ o,s.heap.get? L = some o:=let ⟨_,e⟩:=hL;⟨_,e⟩
   have exP : ∀ p ∈ ps,∃ o,s.heap.get? p.1 = some o:=fun p hp => let ⟨_,⟨_,e⟩,_⟩:=hR p hp;⟨_,e⟩
   have usn : us = []:=rsR.is
   subst usn
   have eW : c3W = c3W:=rfl
   conv at eW => rhs;whnf
   rw [eW]
   refine execs_cons (wpAny_While ?_)
   refine c3Loop AO XE rm' (fun b hb' => mask_in hb') hMR nSR hmg hmb hc ps ps L O₂ { s with heap:=h₂,toks:=tk₂ } _ rfl ⟨rfl,hok,nd,by rw [List.length_map];exact hlen⟩ (by simpa using hbnd) (fun ζ h => h) rfl hlen
    ⟨aft.fs.F,K₂,fun b hb' => ?_,oR,rvR,⟨[],lR,.nil⟩,aft.vk _ _ (by decide +kernel) seqv,(hL.keepK kE).off kS (nSl L exL),nO2 L exL,(hR.keep kE).off kS fun p hp => nSl _ (exP p hp)⟩ ?_ ?_
   ·obtain ⟨p,hp,rfl⟩:=lMp hb'
    exact nO2 _ (exP p hp)
   ·intro fin res h' tk us' e1 e2 e3 k l sa rp
    exact hQ fin res h' tk R us' e1 e2 e3 (kE.none hRn) l sa rp (keep_unmask k)
   ·intro e0 fin h₃ h₉ tk e e2 e3 k rp K₉ m
    refine note_first (s:={ s with heap:=h₉,toks:=tk }) hfr ent.frame K₉ m fun h₅ f5 l5 => ?_
    refine cameBack_ok (s:={ s with heap:=h₅,toks:=tk }) ent.frame f5 fun h' f lf => ?_
    refine leave_held (s:={ s with heap:=h',toks:=tk }) ent.frame f fun h₄ f4 l4 => ?_
    exact hE e0 fin h₃ h₄ tk e e2 e3 rp (keep_unmask k) f4 (l4 (lf l5)))
 exact ⟨a,ha,hd,wpAny_call call⟩
end
end
section
variable [bs : Base]
section
variable {prog : Program} {w : World} {T : Tab} {hb : Heap} {mg mb : Str → Option Value} {cl : Str → Option Value} {n : Nat} {A : Around} {s : Shared} {E : Value → Shared → Prop}
theorem Fly2.at {h₀ h : Heap} {e : Addr} {X : String} {x : Str} {fl : Value} (f : Fly2 h₀ h e (.type X) x fl) : ∃ t tk,h.ExcAt e X (.ref t) ∧ h.TupAt t [.str x tk]:=by
 obtain ⟨_,_,t,tk,⟨oe,vs,_,_,_,g1,g2,g3,_⟩,_,n0,pt⟩:=f
 exact ⟨t,tk,⟨oe,vs,g1,g2.1,g3,g2.2⟩,_,n0,pt,rfl,rfl⟩
theorem Fly2.keeps {h₀ h h' : Heap} {e : Addr} {C : Value} {x : Str} {fl : Value} (f : Fly2 h₀ h e C x fl) {J : Addr → Prop} (k : KeepBut J h h') (hJ : ∀ b,J b → ∃ o,h₀.get? b = some o) (hc : C ≠ .type "frame") :
  ∃ t tk oe vs,h'.get? e = some oe ∧ oe.cls = C ∧ oe.data = .fields vs ∧ vs[0]? = some (.ref t) ∧ PT h' t [.str x tk]:=by
 obtain ⟨_,hen,t,tk,⟨oe,vs,_,_,_,g1,g2,g3,_⟩,htn,pt⟩:=f
 have he : ¬ J e:=fun z => by obtain ⟨o,ho⟩:=hJ e z;rw [hen] at ho;cases ho
 have ht : ¬ J t:=fun z => by obtain ⟨o,ho⟩:=hJ t z;rw [htn] at ho;cases ho
 exact ⟨t,tk,oe,vs,k.same he g1 (by rw [g2.1];exact hc),g2.1,g3,g2.2,pt.off k ht⟩
theorem c3_call (AO : ∀ k,AllOk prog w T hb mg mb cl k (evs T k)) (XE : ExcsOk T hb mg cl) (FA : FnAt hb mg (Str.ofString "_c3_merge") c3F) (rm : Rm false hb 50 A) (kb : Keep hb s.heap) (K : Stk hb A s.heap)
  (hmg : mg (Str.ofString "RuntimeError") = none) (hmb : mb (Str.ofString "RuntimeError") = some (.type "RuntimeError"))
  {L : Addr} {ps : List (Addr × List Str)} (hL : PL s.heap L (ps.map fun p => .ref p.1)) (hR : RowsP s.heap ps) (nd : (ps.map (·.1)).Nodup) (newp : ∀ p ∈ ps,hb.get? p.1 = none) (hok : ∀ p ∈ ps,OkRow p.2) (hlen : ps.length ≤ 1000) (hbnd : ((ps.map (·.2)).map List.length).sum ≤ 1000000)
  {out : Option (List Str)} {rest : List (List Str)} (hc : C3 (ps.map (·.2)) [] out rest) {a : Addr} (hac : mg (Str.ofString "_c3_merge") = some (.ref a)) {Q : Value → Shared → Prop}
  (hQ : ∀ (fin : List (Addr × List Str)) res h' tk R us,out = some res → fin.map (·.1) = ps.map (·.1) → fin.map (·.2) = rest → s.heap.get? R = none → PL h' R us → StrsAre us res → RowsP h' fin → KeepBut (fun b => b ∈ ps.map (·.1)) s.heap h' → Q (.ref R) { s with heap:=h',toks:=tk })
  (hE : out = none → ∀ (fin : List (Addr × List Str)) h₁ h' tk e,fin.map (·.1) = ps.map (·.1) → fin.map (·.2) = rest → RowsP h₁ fin → KeepBut (fun b => b ∈ ps.map (·.1)) s.heap h₁ → Fly2 h₁ h' e (.type "RuntimeError") (Str.ofString "Inconsistent hierarchy") .none → Lone h' e → E (.ref e) { s with heap:=h',toks:=tk }) :
  wpAny (model prog w) A (call (.ref a) [.ref L]) Q E s:=by
 obtain ⟨a',ha',_,w'⟩:=c3_rule AO XE FA rm kb K hmg hmb hL hR nd newp hok hlen hbnd hc hQ hE
 rw [hac] at ha';cases ha'
 exact w'
end
end
section
variable [bs : Base]
theorem dropName_cls (name : Str) (o : Obj) : (Obj.dropName name o).cls = o.cls:=by
 obtain ⟨c,d,dt,sl⟩:=o
 rw [Obj.dropName_eq]
 unfold Obj.dropNameByArray
 cases dt <;> first | rfl | (dsimp only;split <;> rfl)
theorem dropName_data (name : Str) {o : Obj} {es ep} (h : o.data = .dict es ep) : ∃ es' ep',(Obj.dropName name o).data = .dict es' ep':=by
 obtain ⟨c,d,dt,sl⟩:=o
 simp only at h;subst h
 rw [Obj.dropName_eq]
 unfold Obj.dropNameByArray
 dsimp only
 split <;> exact ⟨_,_,rfl⟩
section
variable {M : Model} {A : Around} {E : Value → Shared → Prop} {s : Shared}
theorem nsDel_rule {a : Addr} {m : Str → Option Value} {name : Str} {Q : Bool → Shared → Prop} (hn : s.heap.Ns a m)
  (hQ : ∀ h' v,h'.Ns a (fun x => if x = name then v else m x) → Heap.SameBut a s.heap h' → (∀ o,s.heap.get? a = some o → ∃ o' es ep,h'.get? a = some o' ∧ o'.cls = o.cls ∧ o'.data = .dict es ep) → Q (m name).isSome { s with heap:=h' }) :
  wpAny M A (nsDel a name) Q E s:=by
 intro Γ p hΓ
 have base:=wpAny_nsDel_keeps (M:=M) (A:=A) (E:=E) (Q:=fun b s' => ∃ h' v,b = (m name).isSome ∧ s' = { s with heap:=h' } ∧ h'.Ns a (fun x => if x = name then v else m x) ∧ Heap.SameBut a s.heap h') hn (fun h' v h1 h2 => ⟨h',v,rfl,rfl,h1,h2⟩) Γ p hΓ
 obtain ⟨o,es,ep,ho,hd,hk,hm⟩:=hn
 have hany : es.any (·.refKey) = false:=by
  rw [Array.any_eq_false'];intro e he;obtain ⟨n,t,h⟩:=hk e he;simp [DictEntry.refKey,h]
 have hhas : ∃ b,nsHas name o = pure b:=by
  rw [nsHas_eq];unfold nsHasByArray;rw [hd]
  show ∃ b,(if (es.any fun x => x.key.isStr name) = true then _ else _) = _
  cases (es.any fun x => x.key.isStr name) with
  | true => exact ⟨_,rfl⟩
  | false => simp only [Bool.false_eq_true,if_false,hany];exact ⟨_,rfl⟩
 obtain ⟨b,hb⟩:=hhas
 unfold nsDel at base ⊢
 simp only [Sem.wp_bind'] at base ⊢
 rw [Sem.wp_loadPart_of M Γ _ p s (o:=o) _ ho] at base ⊢
 rw [hb] at base ⊢
 simp only [Sem.wp_pure'] at base ⊢
 cases b with
 | false =>
  simp only [Bool.false_eq_true,if_false,Sem.wp_pure'] at base ⊢
  obtain ⟨h',v,e1,e2,h1,h2⟩:=base
  have e4:=congrArg Shared.heap e2
  simp only at e4
  rw [e1]
  have:=hQ s.heap v (e4 ▸ h1) (.refl ..) fun o' ho' => by rw [ho] at ho';obtain rfl:=Option.some.inj ho';exact ⟨o,es,ep,ho,rfl,hd⟩
  exact this
 | true =>
  simp only [if_true,Sem.wp_bind',Sem.wp_cmd_updatePart,Sem.wp_pure'] at base ⊢
  refine ⟨base.1,?_⟩
  obtain ⟨h',v,e1,e2,h1,h2⟩:=base.2
  have e4:=congrArg Shared.heap e2
  simp only at e4
  subst e4
  rw [e1]
  refine hQ _ v h1 h2 fun o' ho' => ?_
  rw [ho] at ho';obtain rfl:=Option.some.inj ho'
  obtain ⟨es',ep',hd'⟩:=dropName_data name hd
  exact ⟨_,es',ep',Heap.get?_update_self _ ho (Obj.isFreed_of_dict hd'),dropName_cls _ _,hd'⟩
end
section
variable {prog : Program} {w : World} {hb : Heap} {sc : Names} {hF : Heap} {O : Addr → Prop} {env : Env} {ρ : Vars}
variable {A : Around} {E : Value → Shared → Prop} {s : Shared} {M : Model}
theorem nameGoes_ok (F : FrI prog w sc hF O s.heap env ρ) {x : Str} {pos : Pos} (hx : sc.lookup x = some .local) (hρ : ρ.lookup x = none) {Q : Unit → Shared → Prop}
  (hQ : ∀ h' tk,FrI prog w sc hF O h' env ρ → KeepBut (OwnS hF O env) s.heap h' → Kept env sc [x] s.heap h' → Q () { s with heap:=h',toks:=tk }) :
  wpAny M A (do bindName env x .none;unbindBehindTheSuite env x pos) Q E s:=by
 have hp : (env.scope.kind == .class || (env.scope.kind == .module && env.locals != env.globals)) = false:=by rw [F.kind];rfl
 refine wpAny_bind (wpAny_bindName (F.storeV (v:=.none) (.inl hx) hρ fun h₁ tk₁ F₁ k₁ kp₁ vi₁ => ?_))
 unfold unbindBehindTheSuite
 refine wpAny_onRaise ?_
 unfold unbindName
 refine wpAny_bind (wpAny_point (wpAny_bind ?_))
 unfold deleteName
 simp only [F.loc x hx,hp]
 rw [if_neg (by decide)]
 obtain ⟨m,hn,hm⟩:=F₁.ns
 have hsome : (m x).isSome = true:=by
  rcases vi₁ with ⟨_,m',hn',e⟩ | ⟨e,_⟩
  ·rw [hn.agree hn' x,e];rfl
  ·rw [hx] at e;cases e
 refine wpAny_bind (nsDel_rule (s:={ s with heap:=h₁,toks:=tk₁ }) hn fun h₂ v hn₂ sb hcl => ?_)
 rw [hsome]
 simp only [Bool.not_true,Bool.false_eq_true,if_false]
 refine wpAny_pure (wpAny_point ?_)
 have kbS : KeepBut (OwnS hF O env) h₁ h₂:=KeepBut.of_sameBut sb ⟨F.oloc,.inl rfl⟩
 have ne : ∀ {y d},ρ.lookup y = some d → y ≠ x:=fun e q => by rw [q,hρ] at e;cases e
 have kO : KeepBut O h₁ h₂:=kbS.of_ownS.of_own
 refine hQ h₂ tk₁ { F₁ with
  ns:=⟨_,hn₂,fun y d e1 e2 => let ⟨u,e3,r⟩:=hm y d e1 e2;⟨u,by rw [if_neg (ne e1)];exact e3,r.keepBut kO⟩⟩
  cell:=fun y e => let ⟨c,ov,e1,e2,e3⟩:=F₁.cell y e;⟨c,ov,e1,e2.sameBut sb (F.ocell y c e1).2,fun d ed => let ⟨u,e4,r⟩:=e3 d ed;⟨u,e4,r.keepBut kO⟩⟩
  allc:=fun y c e => let ⟨ov,e2⟩:=F₁.allc y c e;⟨ov,e2.sameBut sb (F.ocell y c e).2⟩
  keep:=F₁.keep.of_own kbS.of_ownS
  old:=fun a z => by
   obtain ⟨o,eo⟩:=F₁.old a z
   by_cases ha : a = env.locals
   ·obtain ⟨o',_,_,ho',_⟩:=hn₂;exact ⟨o',by rw [ha];exact ho'⟩
   ·exact ⟨o,sb.extBut a o ha eo⟩ } (k₁.trans kbS) ((kp₁.trans (Y:=[x]) ⟨hcl,fun y u ny q => ?_⟩).mono fun y hy => by simpa using hy)
 rcases q with ⟨e,m₂,hn₂',hm₂⟩ | ⟨e,c,hc,hcl'⟩
 ·refine .inl ⟨e,_,hn₂,?_⟩
  rw [if_neg (fun q => ny (by rw [q];exact List.mem_singleton.mpr rfl)),hn.agree hn₂' y];exact hm₂
 ·exact .inr ⟨e,c,hc,hcl'.sameBut sb (F.ocell y c hc).2⟩
end
end
section
noncomputable def Bef {α : Type} : List α → α → α → Prop
 | [],_,_ => False
 | z :: t,x,y => (x = z ∧ y ∈ t) ∨ Bef t x y
theorem Bef.memR {α : Type} {x y : α} : ∀ {r : List α},Bef r x y → y ∈ r.tail
 | _ :: _,.inl h => h.2
 | _ :: _ :: _,.inr h => List.mem_cons_of_mem _ (Bef.memR (r:=_ :: _) h)
theorem Bef.memL {α : Type} {x y : α} : ∀ {r : List α},Bef r x y → x ∈ r
 | _ :: _,.inl h => h.1 ▸ List.mem_cons_self
 | _ :: _,.inr h => List.mem_cons_of_mem _ h.memL
theorem mem2_iff {c : Str} {r : List Str} : mem2 c r = true ↔ c ∈ r.tail:=by
 unfold mem2
 rw [List.any_eq_true]
 exact ⟨fun ⟨x,h,e⟩ => beq_iff_eq.mp e ▸ h,fun h => ⟨c,h,beq_iff_eq.mpr rfl⟩⟩
noncomputable def Free (all : List (List Str)) (c : Str) : Prop:=∀ r ∈ all,c ∉ r.tail
set_option tactic.hygienic true in
theorem find_some {all : List (List Str)} {c : Str} : ∀ {rs : List (List Str)},c3find all rs = some c → (∃ t,(c :: t) ∈ rs) ∧ Free all c
 | [] :: rs,h => let ⟨⟨t,ht⟩,f⟩:=find_some (rs:=rs) h;⟨⟨t,List.mem_cons_of_mem _ ht⟩,f⟩
 | (d :: t) :: rs,h => by
  unfold c3find at h
  split at h
  ·obtain ⟨⟨t,ht⟩,f⟩:=find_some (rs:=rs) h;exact ⟨⟨t,List.mem_cons_of_mem _ ht⟩,f⟩
  ·rename_i hn
   obtain rfl:=Option.some.inj h
   exact ⟨⟨t,List.mem_cons_self⟩,fun r hr hm => hn (List.any_eq_true.mpr ⟨r,hr,mem2_iff.mpr hm⟩)⟩
set_option tactic.hygienic true in
theorem find_none {all : List (List Str)} : ∀ {rs : List (List Str)},c3find all rs = none → ∀ c t,(c :: t) ∈ rs → ¬ Free all c
 | [] :: rs,h,c,t,hm => find_none (rs:=rs) h c t ((cMp hm).elim (fun e => nomatch e) id)
 | (d :: u) :: rs,h,c,t,hm => fun f => by
  unfold c3find at h
  split at h
  ·rename_i hy
   rcases cMp hm with e | hm
   ·cases e
    obtain ⟨r,hr,hx⟩:=List.any_eq_true.mp hy
    exact f r hr (mem2_iff.mp hx)
   ·exact find_none (rs:=rs) h c t hm f
  ·cases h
theorem mem_neR {rows : List (List Str)} {r : List Str} : r ∈ rows.filter neR ↔ r ∈ rows ∧ r ≠ []:=by
 rw [List.mem_filter]
 cases r <;> simp [neR]
theorem free_ne {rows : List (List Str)} {c : Str} (f : Free (rows.filter neR) c) : Free rows c:=fun r hr hm => f r (mem_neR.mpr ⟨hr,fun e => by rw [e] at hm;cases hm⟩) hm
theorem pick_some {rows : List (List Str)} {c : Str} (h : c3pick rows = some c) : (∃ t,(c :: t) ∈ rows) ∧ Free rows c :=
 let ⟨⟨t,ht⟩,f⟩:=find_some h;⟨⟨t,(mem_neR.mp ht).1⟩,free_ne f⟩
theorem pick_none {rows : List (List Str)} (h : c3pick rows = none) (c t) (hm : (c :: t) ∈ rows) : ¬ Free rows c:=fun f =>
 find_none h c t (mem_neR.mpr ⟨hm,List.cons_ne_nil _ _⟩) fun r hr => f r (mem_neR.mp hr).1
theorem del_cons (c d : Str) (t : List Str) : c3del c (d :: t) = if (d == c) = true then t else d :: t:=rfl
set_option tactic.hygienic true in
theorem del_cases (c : Str) (r : List Str) : (∃ t,r = c :: t ∧ c3del c r = t) ∨ c3del c r = r ∧ r.head? ≠ some c:=by
 cases r with
 | nil => exact .inr ⟨rfl,nofun⟩
 | cons d t =>
  rw [del_cons]
  split
  ·rename_i e
   exact .inl ⟨t,by rw [beq_iff_eq.mp e],rfl⟩
  ·rename_i e
   exact .inr ⟨rfl,fun q => e (beq_iff_eq.mpr (Option.some.inj q))⟩
theorem del_mem {c x : Str} {r : List Str} (f : c ∉ r.tail) : x ∈ c3del c r ↔ x ∈ r ∧ x ≠ c:=by
 rcases del_cases c r with ⟨t,rfl,e⟩ | ⟨e,n⟩ <;> rw [e]
 ·exact ⟨fun h => ⟨List.mem_cons_of_mem _ h,fun e => f (e ▸ h)⟩,fun h => (cMp h.1).resolve_left h.2⟩
 ·refine ⟨fun h => ⟨h,fun q => ?_⟩,fun h => h.1⟩
  subst q
  cases r with
  | nil => cases h
  | cons d t => exact (cMp h).elim (fun q => n (congrArg some q.symm)) f
theorem del_bef {c x y : Str} {r : List Str} (hx : x ≠ c) (b : Bef r x y) : Bef (c3del c r) x y:=by
 rcases del_cases c r with ⟨t,rfl,e⟩ | ⟨e,-⟩ <;> rw [e]
 ·exact b.resolve_left fun q => hx q.1
 ·exact b
theorem bef_del {c x y : Str} {r : List Str} (b : Bef (c3del c r) x y) : Bef r x y:=by
 rcases del_cases c r with ⟨t,rfl,e⟩ | ⟨e,-⟩ <;> rw [e] at b
 ·exact .inr b
 ·exact b
theorem del_filter {c : Str} {held : Str → Bool} (hc : held c = false) (r : List Str) : (c3del c r).filter held = r.filter held:=by
 rcases del_cases c r with ⟨t,rfl,e⟩ | ⟨e,-⟩ <;> rw [e]
 rw [List.filter_cons_of_neg (by rw [hc];exact Bool.false_ne_true)]
theorem del_short (c : Str) (r : List Str) : (c3del c r).length ≤ r.length:=by
 rcases del_cases c r with ⟨t,rfl,e⟩ | ⟨e,-⟩ <;> rw [e]
 ·exact Nat.le_succ _
 ·exact Nat.le_refl _
noncomputable def size (rows : List (List Str)) : Nat:=(rows.map List.length).sum
theorem size_cons (r : List Str) (rows : List (List Str)) : size (r :: rows) = r.length + size rows:=List.sum_cons
theorem del_size_le (c : Str) : ∀ rows : List (List Str),size (rows.map (c3del c)) ≤ size rows
 | [] => Nat.le_refl _
 | r :: rows => by rw [List.map_cons,size_cons,size_cons];exact Nat.add_le_add (del_short c r) (del_size_le c rows)
theorem del_size (c : Str) (t : List Str) : ∀ rows : List (List Str),(c :: t) ∈ rows → size (rows.map (c3del c)) < size rows
 | r :: rows,h => by
  rw [List.map_cons,size_cons,size_cons]
  rcases cMp h with e | h
  ·subst e
   rw [del_cons,if_pos (beq_iff_eq.mpr rfl)]
   exact Nat.add_lt_add_of_lt_of_le (Nat.lt_succ_self _) (del_size_le c rows)
  ·exact Nat.add_lt_add_of_le_of_lt (del_short c r) (del_size c t rows h)
theorem least {α : Type} (f : α → Nat) : ∀ {l : List α},l ≠ [] → ∃ x ∈ l,∀ y ∈ l,f x ≤ f y
 | [a],_ => ⟨a,List.mem_cons_self,fun y hy => (sMp hy) ▸ Nat.le_refl _⟩
 | a :: b :: l,_ => by
  obtain ⟨x,hx,h⟩:=least f (List.cons_ne_nil b l)
  by_cases q : f a ≤ f x
  ·exact ⟨a,List.mem_cons_self,fun y hy => (cMp hy).elim (fun e => e ▸ Nat.le_refl _) fun hy => Nat.le_trans q (h y hy)⟩
  ·exact ⟨x,List.mem_cons_of_mem _ hx,fun y hy => (cMp hy).elim (fun e => e ▸ Nat.le_of_not_le q) (h y)⟩
noncomputable def Stands (rows : List (List Str)) (x : Str) : Prop:=∃ r ∈ rows,x ∈ r
noncomputable def InRow (rows : List (List Str)) (x y : Str) : Prop:=∃ r ∈ rows,Bef r x y
structure Tells (rows : List (List Str)) (l : List Str) : Prop where
 nodup : l.Nodup
 mem : ∀ x,x ∈ l ↔ Stands rows x
 ord : ∀ x y,InRow rows x y → l.idxOf x < l.idxOf y
theorem idx_tail {c x : Str} {l : List Str} (h : x ≠ c) : (c :: l).idxOf x = l.idxOf x + 1:=by
 rw [List.idxOf_cons,show (c == x) = false from beq_eq_false_iff_ne.mpr (Ne.symm h)];rfl
theorem c3_total (held : Str → Bool) (rank : Str → Nat) : ∀ (n : Nat) (rows : List (List Str)) (res : List Str),size rows < n →
  (∀ x,Stands rows x → held x = true → ∃ y,held y = true ∧ InRow rows y x) → (∀ x y,InRow rows x y → held y = false → held x = false ∧ rank x < rank y) →
  ∃ out,C3 rows res out (rows.map (·.filter held)) ∧ ((∃ x,Stands rows x ∧ held x = true) → out = none) ∧ ((∀ x,Stands rows x → held x = false) → ∃ l,out = some (res ++ l) ∧ Tells rows l)
 | 0,_,_,hn,_,_ => nomatch hn
 | n + 1,rows,res,hn,h1,h2 => by
  by_cases e : ∀ r ∈ rows,r = []
  ·have no : ∀ x,¬ Stands rows x:=fun x ⟨r,hr,hx⟩ => by rw [e r hr] at hx;cases hx
   have er : rows.map (·.filter held) = rows:=(List.map_congr_left fun r hr => by rw [e r hr];rfl).trans (List.map_id _)
   exact ⟨some res,er.symm ▸ .done rows res e,fun ⟨x,h,_⟩ => (no x h).elim,fun ζ => ⟨[],by rw [List.append_nil],List.nodup_nil,fun x => ⟨nofun,fun h => (no x h).elim⟩,fun x y ⟨r,hr,b⟩ => (no x ⟨r,hr,b.memL⟩).elim⟩⟩
  ·have e' : ∃ r ∈ rows,r ≠ []:=Classical.byContradiction fun q => e fun r hr => Classical.byContradiction fun z => q ⟨r,hr,z⟩
   cases hp : c3pick rows with
   | none =>
    have all : ∀ x,Stands rows x → held x = true:=fun x ⟨r,hr,hx⟩ => by
     cases hh : held x with
     | true => rfl
     | false =>
     obtain ⟨y,hy,le⟩:=least rank (l:=rows.flatten.filter fun x => !held x) (List.ne_nil_of_mem (fMr ⟨List.mem_flatten.mpr ⟨r,hr,hx⟩,by rw [hh];rfl⟩))
     obtain ⟨hy1,hy2⟩:=fMp hy
     obtain ⟨r',hr',hm⟩:=List.mem_flatten.mp hy1
     have f : Free rows y:=fun r'' hr'' ht => by
      cases r'' with
      | nil => cases ht
      | cons z t =>
       have q:=h2 z y ⟨_,hr'',.inl ⟨rfl,ht⟩⟩ (Bool.not_eq_true' _ |>.mp hy2)
       exact absurd q.2 (Nat.not_lt.mpr (le z (fMr ⟨List.mem_flatten.mpr ⟨_,hr'',List.mem_cons_self⟩,by rw [q.1];rfl⟩)))
     cases r' with
     | nil => cases hm
     | cons z t =>
      rcases cMp hm with q | hm
      ·exact absurd f (pick_none hp y t (q ▸ hr'))
      ·exact absurd hm (f _ hr')
    have er : rows.map (·.filter held) = rows:=(List.map_congr_left fun r hr => List.filter_eq_self.mpr fun x hx => all x ⟨r,hr,hx⟩).trans (List.map_id _)
    refine ⟨none,er.symm ▸ .fail rows res e' hp,fun ζ => rfl,fun h => ?_⟩
    obtain ⟨r,hr,hne⟩:=e'
    obtain ⟨x,hx⟩:=List.exists_mem_of_ne_nil r hne
    exact nomatch (h x ⟨r,hr,hx⟩).symm.trans (all x ⟨r,hr,hx⟩)
   | some c =>
    obtain ⟨⟨t,ht⟩,f⟩:=pick_some hp
    have hc : held c = false:=Bool.eq_false_iff.mpr fun q => let ⟨y,_,r,hr,b⟩:=h1 c ⟨_,ht,List.mem_cons_self⟩ q;f r hr b.memR
    have st : ∀ x,Stands (rows.map (c3del c)) x ↔ Stands rows x ∧ x ≠ c:=fun x => by
     constructor
     ·rintro ⟨r',hr',hx⟩
      obtain ⟨r,hr,rfl⟩:=lMp hr'
      exact ⟨⟨r,hr,((del_mem (f r hr)).mp hx).1⟩,((del_mem (f r hr)).mp hx).2⟩
     ·rintro ⟨⟨r,hr,hx⟩,hn⟩
      exact ⟨_,List.mem_map_of_mem hr,(del_mem (f r hr)).mpr ⟨hx,hn⟩⟩
    have up : ∀ x y,x ≠ c → InRow rows x y → InRow (rows.map (c3del c)) x y:=fun x y hx ⟨r,hr,b⟩ => ⟨_,List.mem_map_of_mem hr,del_bef hx b⟩
    obtain ⟨out,o1,o2,o3⟩:=c3_total held rank n (rows.map (c3del c)) (res ++ [c]) (Nat.lt_of_lt_of_le (del_size c t rows ht) (Nat.le_of_lt_succ hn)) (fun x hx hh => by
      obtain ⟨y,hy,b⟩:=h1 x ((st x).mp hx).1 hh
      exact ⟨y,hy,up y x (fun q => by rw [q,hc] at hy;cases hy) b⟩) (fun x y b hy => by
      obtain ⟨r',hr',b⟩:=b
      obtain ⟨r,hr,rfl⟩:=lMp hr'
      exact h2 x y ⟨r,hr,bef_del b⟩ hy)
    have er : (rows.map (c3del c)).map (·.filter held) = rows.map (·.filter held):=by rw [List.map_map];exact List.map_congr_left fun r ζ => del_filter hc r
    refine ⟨out,.step rows res c out _ hp (er ▸ o1),fun ⟨x,hx,hh⟩ => o2 ⟨x,(st x).mpr ⟨hx,fun q => by rw [q,hc] at hh;cases hh⟩,hh⟩,fun h => ?_⟩
    obtain ⟨l,rfl,T⟩:=o3 fun x hx => h x ((st x).mp hx).1
    refine ⟨c :: l,by rw [List.append_assoc];rfl,List.nodup_cons.mpr ⟨fun q => ((st c).mp ((T.mem c).mp q)).2 rfl,T.nodup⟩,fun x => ?_,fun x y b => ?_⟩
    ·rw [List.mem_cons,T.mem,st]
     exact ⟨fun q => q.elim (fun q => ⟨_,ht,q ▸ List.mem_cons_self⟩) And.left,fun q => (Classical.em (x = c)).imp_right fun z => ⟨q,z⟩⟩
    ·have hy : y ≠ c:=fun q => by obtain ⟨r,hr,b⟩:=b;exact f r hr (q ▸ b.memR)
     rw [idx_tail hy]
     by_cases hx : x = c
     ·rw [hx,List.idxOf_cons_self];exact Nat.succ_pos _
     ·rw [idx_tail hx];exact Nat.succ_lt_succ (T.ord x y (up x y hx b))
end
section
noncomputable def row (R : List (List Nat)) (a : Nat) : List Nat:=(R[a]?).getD []
theorem row_set {R : List (List Nat)} {a : Nat} (h : a < R.length) (v : List Nat) (x : Nat) : row (R.set a v) x = if x = a then v else row R x:=by
 unfold row
 rw [List.getElem?_set]
 by_cases q : x = a
 ·rw [if_pos q.symm,if_pos q,if_pos h];rfl
 ·rw [if_neg (Ne.symm q),if_neg q]
noncomputable def stepR (m a : Nat) (R : List (List Nat)) : List (List Nat):=if (row R a).contains m = true then R.set a (row R a ++ (row R m).filter fun b => !(row R a).contains b) else R
noncomputable def OkL (l : List Nat) : Prop:=l.Nodup ∧ ∀ b ∈ l,b < 8
noncomputable def OkR (R : List (List Nat)) : Prop:=R.length = 8 ∧ ∀ a,OkL (row R a)
theorem mem_more {l k : List Nat} {b : Nat} : b ∈ l ++ k.filter (fun b => !l.contains b) ↔ b ∈ l ∨ b ∈ k:=by
 rw [List.mem_append,List.mem_filter,Bool.not_eq_true',← Bool.not_eq_true,List.contains_iff_mem]
 exact ⟨fun h => h.imp_right And.left,fun h => (Classical.em (b ∈ l)).imp_right fun n => ⟨h.resolve_left n,n⟩⟩
theorem okL_more {l k : List Nat} (hl : OkL l) (hk : OkL k) : OkL (l ++ k.filter fun b => !l.contains b) :=
 ⟨List.nodup_append.mpr ⟨hl.1,hk.1.sublist List.filter_sublist,fun a ha b hb e => by
  rw [List.mem_filter,Bool.not_eq_true',← Bool.not_eq_true,List.contains_iff_mem] at hb
  exact hb.2 (e ▸ ha)⟩,fun b hb => (mem_more.mp hb).elim (hl.2 b) (hk.2 b)⟩
set_option tactic.hygienic true in
theorem stepR_ok {R : List (List Nat)} (h : OkR R) {a : Nat} (ha : a < 8) (m : Nat) : OkR (stepR m a R) ∧ ∀ x b,b ∈ row (stepR m a R) x ↔ b ∈ row R x ∨ (x = a ∧ m ∈ row R x ∧ b ∈ row R m):=by
 unfold stepR
 split
 ·rename_i hm
  rw [List.contains_iff_mem] at hm
  have e:=fun v => row_set (R:=R) (h.1.symm ▸ ha) v
  refine ⟨⟨by rw [List.length_set,h.1],fun x => ?_⟩,fun x b => ?_⟩
  ·rw [e]
   split
   ·exact okL_more (h.2 a) (h.2 m)
   ·exact h.2 x
  ·rw [e]
   split
   ·rename_i q
    subst q
    rw [mem_more]
    exact ⟨fun z => z.imp_right fun z => ⟨rfl,hm,z⟩,fun z => z.imp_right fun z => z.2.2⟩
   ·rename_i q
    exact ⟨.inl,fun z => z.resolve_right fun z => q z.1⟩
 ·rename_i hm
  rw [List.contains_iff_mem] at hm
  exact ⟨h,fun x b => ⟨.inl,fun z => z.resolve_right fun z => hm (z.1 ▸ z.2.1)⟩⟩
noncomputable def innerR (m : Nat) (as : List Nat) (R : List (List Nat)) : List (List Nat):=as.foldl (fun R a => stepR m a R) R
theorem innerR_ok (m : Nat) : ∀ (as : List Nat) (R : List (List Nat)),OkR R → (∀ a ∈ as,a < 8) → OkR (innerR m as R) ∧ ∀ x b,b ∈ row (innerR m as R) x ↔ b ∈ row R x ∨ (x ∈ as ∧ m ∈ row R x ∧ b ∈ row R m)
 | [],R,h,_ => ⟨h,fun x b => ⟨.inl,fun z => z.resolve_right fun z => nomatch z.1⟩⟩
 | a :: as,R,h,ha => by
  obtain ⟨h1,u1⟩:=stepR_ok h (ha a List.mem_cons_self) m
  obtain ⟨h2,u2⟩:=innerR_ok m as (stepR m a R) h1 fun b hb => ha b (List.mem_cons_of_mem _ hb)
  refine ⟨h2,fun x b => (u2 x b).trans ?_⟩
  rw [u1,u1,u1,List.mem_cons]
  constructor
  ·rintro ((z | ⟨z,y,w⟩) | ⟨z,y | ⟨_,y,_⟩,w | ⟨_,_,w⟩⟩)
   ·exact .inl z
   ·exact .inr ⟨.inl z,y,w⟩
   all_goals exact .inr ⟨.inr z,y,w⟩
  ·rintro (z | ⟨z | z,y,w⟩)
   ·exact .inl (.inl z)
   ·exact .inl (.inr ⟨z,y,w⟩)
   ·exact .inr ⟨z,.inl y,.inl w⟩
noncomputable def outerR (ms : List Nat) (R : List (List Nat)) : List (List Nat):=ms.foldl (fun R m => innerR m (List.range 8) R) R
noncomputable abbrev Rel (R : List (List Nat)) (a b : Nat) : Prop:=b ∈ row R a
theorem outerR_ok (S : Nat → Nat → Prop) (hS : ∀ a b c,S a b → S b c → S a c) : ∀ (ms : List Nat) (D : Nat → Prop) (R : List (List Nat)),OkR R → (∀ a b c,D c → Rel R a c → Rel R c b → Rel R a b) → (∀ a b,Rel R a b → S a b) → (∀ a b,Rel R a b → a < 8) →
  OkR (outerR ms R) ∧ (∀ a b c,(D c ∨ c ∈ ms) → Rel (outerR ms R) a c → Rel (outerR ms R) c b → Rel (outerR ms R) a b) ∧ (∀ a b,Rel (outerR ms R) a b → S a b) ∧ (∀ a b,Rel R a b → Rel (outerR ms R) a b)
 | [],D,R,h,h1,h2,_ => ⟨h,fun a b c z => h1 a b c (z.resolve_right fun z => nomatch z),h2,fun ζ ζ => id⟩
 | m :: ms,D,R,h,h1,h2,h3 => by
  rw [show outerR (m :: ms) R = outerR ms (innerR m (List.range 8) R) from by unfold outerR;rw [List.foldl_cons]]
  obtain ⟨k,u⟩:=innerR_ok m (List.range 8) R h fun a ha => List.mem_range.mp ha
  generalize innerR m (List.range 8) R = R' at k u ⊢
  have u' : ∀ x b,Rel R' x b ↔ Rel R x b ∨ (Rel R x m ∧ Rel R m b):=fun x b => (u x b).trans ⟨fun z => z.imp_right And.right,fun z => z.imp_right fun z => ⟨List.mem_range.mpr (h3 _ _ z.1),z⟩⟩
  obtain ⟨o1,o2,o3,o4⟩:=outerR_ok S hS ms (fun c => D c ∨ c = m) _ k (fun a b c hc x y => by
    rw [u'] at x y ⊢
    rcases hc with hc | rfl
    ·rcases x with x | ⟨x,x'⟩ <;> rcases y with y | ⟨y,y'⟩
     ·exact .inl (h1 a b c hc x y)
     ·exact .inr ⟨h1 a m c hc x y,y'⟩
     ·exact .inr ⟨x,h1 m b c hc x' y⟩
     ·exact .inr ⟨x,y'⟩
    ·exact .inr ⟨x.elim id And.left,y.elim id And.right⟩)
   (fun a b z => ((u' a b).mp z).elim (h2 a b) fun z => hS a m b (h2 _ _ z.1) (h2 _ _ z.2)) (fun a b z => ((u' a b).mp z).elim (h3 a b) fun z => h3 a m z.1)
  exact ⟨o1,fun a b c z => o2 a b c (z.elim (fun z => .inl (.inl z)) fun z => (cMp z).elim (fun z => .inl (.inr z)) .inr),o3,fun a b z => o4 a b ((u' a b).mpr (.inl z))⟩
structure Reach (P : Nat → Nat → Prop) (R : List (List Nat)) : Prop where
 ok : OkR R
 base : ∀ a b,P a b → Rel R a b
 trans : ∀ a b c,Rel R a b → Rel R b c → Rel R a c
 least : ∀ S : Nat → Nat → Prop,(∀ a b c,S a b → S b c → S a c) → (∀ a b,P a b → S a b) → ∀ a b,Rel R a b → S a b
theorem Reach.lt {P : Nat → Nat → Prop} {R : List (List Nat)} (h : Reach P R) {a b : Nat} (r : Rel R a b) : a < 8 ∧ b < 8:=by
 refine ⟨Nat.lt_of_not_le fun q => ?_,(h.ok.2 a).2 b r⟩
 rw [Rel,row,List.getElem?_eq_none (h.ok.1.symm ▸ q)] at r
 cases r
noncomputable def startR (ps : List (Nat × Nat)) : List (List Nat):=(List.range 8).map fun a => (List.range 8).filter fun b => ps.contains (a,b)
theorem row_start {ps : List (Nat × Nat)} {a b : Nat} : Rel (startR ps) a b ↔ a < 8 ∧ b < 8 ∧ (a,b) ∈ ps:=by
 unfold Rel row startR
 rw [List.getElem?_map]
 by_cases h : a < 8
 ·rw [List.getElem?_range h]
  rw [Option.map_some,Option.getD_some,List.mem_filter,List.mem_range,List.contains_iff_mem]
  exact ⟨fun z => ⟨h,z⟩,And.right⟩
 ·rw [List.getElem?_eq_none (by rw [List.length_range];omega)]
  exact ⟨nofun,fun z => (h z.1).elim⟩
theorem ok_start (ps : List (Nat × Nat)) : OkR (startR ps):=⟨by unfold startR;rw [List.length_map,List.length_range],fun a => ⟨by
 unfold row startR
 rw [List.getElem?_map]
 cases (List.range 8)[a]? with
 | none => exact List.nodup_nil
 | some a => exact List.nodup_range.sublist List.filter_sublist,fun b hb => (row_start.mp hb).2.1⟩⟩
noncomputable def reachR (ps : List (Nat × Nat)) : List (List Nat):=outerR (List.range 8) (startR ps)
theorem reach_ok {ps : List (Nat × Nat)} (hp : ∀ p ∈ ps,p.1 < 8 ∧ p.2 < 8) : Reach (fun a b => (a,b) ∈ ps) (reachR ps) :=
 have key:=fun (S : Nat → Nat → Prop) hS (hb : ∀ a b,(a,b) ∈ ps → S a b) => outerR_ok S hS (List.range 8) (fun ζ => False) (startR ps) (ok_start ps) (fun ζ ζ ζ z => z.elim) (fun a b z => hb a b (row_start.mp z).2.2) fun ζ ζ z => (row_start.mp z).1
 have k:=key (fun ζ ζ => True) (fun ζ ζ ζ ζ ζ => trivial) fun ζ ζ ζ => trivial
 ⟨k.1,fun a b z => k.2.2.2 a b (row_start.mpr ⟨(hp _ z).1,(hp _ z).2,z⟩),fun a b c x y => k.2.1 a c b (.inr (List.mem_range.mpr ((k.1.2 a).2 b x))) x y,fun S hS hb => (key S hS hb).2.2.1⟩
end
section
noncomputable def adj : List Nat → List (Nat × Nat)
 | a :: b :: t => (a,b) :: adj (b :: t)
 | _ => []
theorem adj_bef {a b : Nat} : ∀ {l : List Nat},(a,b) ∈ adj l → Bef l a b
 | c :: d :: t,h => (cMp h).elim (fun e => by cases e;exact .inl ⟨rfl,List.mem_cons_self⟩) fun h => .inr (adj_bef h)
theorem to_all {S : Nat → Nat → Prop} (hS : ∀ a b c,S a b → S b c → S a c) {b : Nat} : ∀ {l : List Nat} {z : Nat},(∀ p ∈ adj (z :: l),S p.1 p.2) → b ∈ l → S z b
 | w :: t,z,h,hb => by
  have h1:=h (z,w) List.mem_cons_self
  rcases cMp hb with e | hb
  ·exact e ▸ h1
  ·exact hS _ _ _ h1 (to_all hS (fun p hp => h p (List.mem_cons_of_mem _ hp)) hb)
theorem bef_adj {S : Nat → Nat → Prop} (hS : ∀ a b c,S a b → S b c → S a c) {a b : Nat} : ∀ {l : List Nat},(∀ p ∈ adj l,S p.1 p.2) → Bef l a b → S a b
 | z :: l,h,.inl e => e.1 ▸ to_all hS h e.2
 | z :: w :: t,h,.inr b => bef_adj hS (fun p hp => h p (List.mem_cons_of_mem _ hp)) b
theorem bef_map {α β : Type} {f : α → β} {x y : β} : ∀ {l : List α},Bef (l.map f) x y → ∃ a b,Bef l a b ∧ x = f a ∧ y = f b
 | z :: t,.inl e => let ⟨b,hb,q⟩:=lMp e.2;⟨z,b,.inl ⟨rfl,hb⟩,e.1,q.symm⟩
 | z :: t,.inr h => let ⟨a,b,q,r⟩:=bef_map (l:=t) h;⟨a,b,.inr q,r⟩
theorem map_bef {α β : Type} {f : α → β} {a b : α} : ∀ {l : List α},Bef l a b → Bef (l.map f) (f a) (f b)
 | _ :: _,.inl e => .inl ⟨congrArg f e.1,List.mem_map_of_mem e.2⟩
 | _ :: _,.inr h => .inr (map_bef h)
theorem cnt_lt {α : Type} {p q : α → Bool} (h : ∀ x,p x = true → q x = true) {a : α} (hp : p a = false) (hq : q a = true) : ∀ {l : List α},a ∈ l → (l.filter p).length < (l.filter q).length:=by
 have le : ∀ l : List α,(l.filter p).length ≤ (l.filter q).length:=fun l => by
  rw [← List.countP_eq_length_filter,← List.countP_eq_length_filter]
  exact List.countP_mono_left fun x ζ => h x
 intro l hl
 induction l with
 | nil => cases hl
 | cons x l ih =>
  rcases cMp hl with e | hl
  ·subst e
   rw [List.filter_cons_of_neg (by rw [hp];exact Bool.false_ne_true),List.filter_cons_of_pos hq]
   exact Nat.lt_succ_of_le (le l)
  ·cases hx : p x with
   | true => rw [List.filter_cons_of_pos hx,List.filter_cons_of_pos (h x hx)];exact Nat.succ_lt_succ (ih hl)
   | false =>
    rw [List.filter_cons_of_neg (by rw [hx];exact Bool.false_ne_true)]
    refine Nat.lt_of_lt_of_le (ih hl) ?_
    rw [List.filter_cons]
    split
    ·exact Nat.le_succ _
    ·exact Nat.le_refl _
noncomputable def ringsN (R : List (List Nat)) : List Nat:=(List.range 8).filter fun k => (row R k).contains k
noncomputable def heldN (R : List (List Nat)) (k : Nat) : Bool:=(ringsN R).contains k || !((ringsN R).filter fun r => (row R r).contains k).isEmpty
noncomputable def heldT (th : Nat → Str) (R : List (List Nat)) : List Str:=((List.range 8).filter (heldN R)).map th
theorem rings_iff {R : List (List Nat)} {k : Nat} : k ∈ ringsN R ↔ k < 8 ∧ Rel R k k:=by
 unfold ringsN
 rw [List.mem_filter,List.mem_range,List.contains_iff_mem]
theorem held_iff {R : List (List Nat)} {k : Nat} : heldN R k = true ↔ ∃ r,r < 8 ∧ Rel R r r ∧ Rel R r k:=by
 unfold heldN
 rw [Bool.or_eq_true,List.contains_iff_mem,rings_iff,Bool.not_eq_true',← Bool.not_eq_true,List.isEmpty_iff]
 constructor
 ·rintro (h | h)
  ·exact ⟨k,h.1,h.2,h.2⟩
  ·obtain ⟨r,hr⟩:=List.exists_mem_of_ne_nil _ h
   rw [List.mem_filter,List.contains_iff_mem,rings_iff] at hr
   exact ⟨r,hr.1.1,hr.1.2,hr.2⟩
 ·rintro ⟨r,h1,h2,h3⟩
  exact .inr (List.ne_nil_of_mem (fMr ⟨rings_iff.mpr ⟨h1,h2⟩,List.contains_iff_mem.mpr h3⟩))
structure Sys (th : Nat → Str) (ls : List (List Nat)) (R : List (List Nat)) : Prop where
 inj : ∀ a b,a < 8 → b < 8 → th a = th b → a = b
 lt : ∀ l ∈ ls,∀ a ∈ l,a < 8
 rc : Reach (fun a b => (a,b) ∈ ls.flatMap adj) R
noncomputable def textR (th : Nat → Str) (ls : List (List Nat)) : List (List Str):=ls.map (·.map th)
section
variable {th : Nat → Str} {ls R : List (List Nat)} (Y : Sys th ls R)
include Y
theorem Sys.bef {l : List Nat} (hl : l ∈ ls) {a b : Nat} (h : Bef l a b) : Rel R a b:=bef_adj Y.rc.trans (fun p hp => Y.rc.base _ _ (List.mem_flatMap.mpr ⟨l,hl,hp⟩)) h
theorem Sys.last {a b : Nat} (h : Rel R a b) : ∃ j,(j = a ∨ Rel R a j) ∧ ∃ l ∈ ls,Bef l j b:=by
 refine Y.rc.least (fun a b => Rel R a b ∧ ∃ j,(j = a ∨ Rel R a j) ∧ ∃ l ∈ ls,Bef l j b) (fun a b c x y => ⟨Y.rc.trans _ _ _ x.1 y.1,?_⟩) (fun a b z => ⟨Y.rc.base _ _ z,?_⟩) a b h |>.2
 ·obtain ⟨j,hj,q⟩:=y.2
  exact ⟨j,.inr (hj.elim (fun e => e ▸ x.1) fun z => Y.rc.trans _ _ _ x.1 z),q⟩
 ·obtain ⟨l,hl,hp⟩:=List.mem_flatMap.mp z
  exact ⟨a,.inl rfl,l,hl,adj_bef hp⟩
theorem Sys.heldT {k : Nat} (hk : k < 8) : (heldT th R).contains (th k) = heldN R k:=by
 rw [Bool.eq_iff_iff,List.contains_iff_mem,Mine.heldT,List.mem_map]
 constructor
 ·rintro ⟨j,hj,e⟩
  obtain ⟨h1,h2⟩:=fMp hj
  rw [← Y.inj j k (List.mem_range.mp h1) hk e];exact h2
 ·exact fun h => ⟨k,fMr ⟨List.mem_range.mpr hk,h⟩,rfl⟩
theorem Sys.stand {x : Str} (h : Stands (textR th ls) x) : ∃ k,k < 8 ∧ x = th k:=by
 obtain ⟨r,hr,hx⟩:=h
 obtain ⟨l,hl,rfl⟩:=lMp hr
 obtain ⟨k,hk,rfl⟩:=lMp hx
 exact ⟨k,Y.lt l hl k hk,rfl⟩
theorem Sys.inRow {x y : Str} (h : InRow (textR th ls) x y) : ∃ a b,x = th a ∧ y = th b ∧ a < 8 ∧ b < 8 ∧ Rel R a b:=by
 obtain ⟨r,hr,hx⟩:=h
 obtain ⟨l,hl,rfl⟩:=lMp hr
 obtain ⟨a,b,q,rfl,rfl⟩:=bef_map hx
 exact ⟨a,b,rfl,rfl,Y.lt l hl a q.memL,Y.lt l hl b (List.mem_of_mem_tail q.memR),Y.bef hl q⟩
theorem Sys.anyT {k : Nat} (hk : k < 8) (j : Nat) : ((row R j).any fun i => th i == th k) = (row R j).contains k:=by
 rw [Bool.eq_iff_iff,List.any_eq_true,List.contains_iff_mem]
 exact ⟨fun ⟨i,hi,e⟩ => Y.inj i k ((Y.rc.ok.2 j).2 i hi) hk (beq_iff_eq.mp e) ▸ hi,fun h => ⟨k,h,beq_iff_eq.mpr rfl⟩⟩
theorem Sys.raw : ∃ out,C3 (textR th ls) [] out ((textR th ls).map (·.filter (Mine.heldT th R).contains)) ∧ (ringsN R ≠ [] → out = none) ∧ (ringsN R = [] → ∃ l,out = some l ∧ Tells (textR th ls) l):=by
 obtain ⟨out,h1,h2,h3⟩:=c3_total (Mine.heldT th R).contains (fun s => ((List.range 8).filter fun j => (row R j).any fun i => th i == s).length) _ (textR th ls) [] (Nat.lt_succ_self _) (fun x hx hh => by
   obtain ⟨k,hk,rfl⟩:=Y.stand hx
   rw [Y.heldT hk] at hh
   obtain ⟨r,r1,r2,r3⟩:=held_iff.mp hh
   obtain ⟨j,hj,l,hl,b⟩:=Y.last r3
   have hr : Rel R r j:=hj.elim (fun e => e ▸ r2) id
   exact ⟨th j,(Y.heldT (Y.rc.lt hr).2).trans (held_iff.mpr ⟨r,r1,r2,hr⟩),_,List.mem_map_of_mem hl,map_bef b⟩) (fun x y h hy => by
   obtain ⟨a,b,rfl,rfl,ha,hb,q⟩:=Y.inRow h
   rw [Y.heldT ha,Y.heldT hb] at *
   have no : ∀ r,r < 8 → Rel R r r → ¬ Rel R r b:=fun r r1 r2 r3 => nomatch hy.symm.trans (held_iff.mpr ⟨r,r1,r2,r3⟩)
   refine ⟨Bool.eq_false_iff.mpr fun z => ?_,cnt_lt (a:=a) (fun j hj => ?_) ?_ ?_ (List.mem_range.mpr ha)⟩
   ·obtain ⟨r,r1,r2,r3⟩:=held_iff.mp z
    exact no r r1 r2 (Y.rc.trans _ _ _ r3 q)
   ·rw [Y.anyT ha,List.contains_iff_mem] at hj
    rw [Y.anyT hb,List.contains_iff_mem]
    exact Y.rc.trans _ _ _ hj q
   ·rw [Y.anyT ha]
    exact Bool.eq_false_iff.mpr fun z => no a ha (List.contains_iff_mem.mp z) q
   ·rw [Y.anyT hb]
    exact List.contains_iff_mem.mpr q)
 refine ⟨out,h1,fun h => h2 ?_,fun h => ?_⟩
 ·obtain ⟨k,hk⟩:=List.exists_mem_of_ne_nil _ h
  obtain ⟨k1,k2⟩:=rings_iff.mp hk
  obtain ⟨j,_,l,hl,b⟩:=Y.last k2
  exact ⟨th k,⟨_,List.mem_map_of_mem hl,List.mem_map_of_mem (List.mem_of_mem_tail b.memR)⟩,(Y.heldT k1).trans (held_iff.mpr ⟨k,k1,k2,k2⟩)⟩
 ·obtain ⟨l,e,T⟩:=h3 fun x hx => by
   obtain ⟨k,hk,rfl⟩:=Y.stand hx
   rw [Y.heldT hk]
   refine Bool.eq_false_iff.mpr fun z => ?_
   obtain ⟨r,r1,r2,_⟩:=held_iff.mp z
   exact absurd (rings_iff.mpr ⟨r1,r2⟩) (h ▸ List.not_mem_nil)
  exact ⟨l,e,T⟩
end
end
section
noncomputable def acyc (ps : List (Nat × Nat)) : Bool:=(ringsN (reachR ps)).isEmpty
inductive Con (ps : List (Nat × Nat)) : Nat → Nat → Prop
 | base {a b} : (a,b) ∈ ps → Con ps a b
 | trans {a b c} : Con ps a b → Con ps b c → Con ps a c
theorem Con.mono {ps qs : List (Nat × Nat)} (h : ∀ p ∈ ps,p ∈ qs) {a b : Nat} (c : Con ps a b) : Con qs a b:=by
 induction c with
 | base m => exact .base (h _ m)
 | trans _ _ x y => exact .trans x y
theorem Con.rev {ps : List (Nat × Nat)} {a b : Nat} (c : Con ps a b) : Con (ps.map Prod.swap) b a:=by
 induction c with
 | base m => exact .base (lMr ⟨_,m,rfl⟩)
 | trans _ _ x y => exact .trans y x
noncomputable def Ok8 (ps : List (Nat × Nat)) : Prop:=∀ p ∈ ps,p.1 < 8 ∧ p.2 < 8
theorem acyc_iff {ps : List (Nat × Nat)} (h : Ok8 ps) : acyc ps = true ↔ ∀ k,¬ Con ps k k:=by
 have r:=reach_ok h
 have e : ∀ a b,Rel (reachR ps) a b ↔ Con ps a b:=fun a b => ⟨r.least (Con ps) (fun ζ ζ ζ => .trans) (fun ζ ζ => .base) a b,fun c => by
  induction c with
  | base m => exact r.base _ _ m
  | trans _ _ x y => exact r.trans _ _ _ x y⟩
 rw [acyc,List.isEmpty_iff,List.eq_nil_iff_forall_not_mem]
 exact ⟨fun q k c => q k (rings_iff.mpr ⟨(r.lt ((e k k).mpr c)).1,(e k k).mpr c⟩),fun q k c => q k ((e k k).mp (rings_iff.mp c).2)⟩
noncomputable def Same (ps qs : List (Nat × Nat)) : Prop:=∀ p,p ∈ ps ↔ p ∈ qs
theorem Ok8.same {ps qs : List (Nat × Nat)} (h : Ok8 ps) (s : Same ps qs) : Ok8 qs:=fun p hp => h p ((s p).mpr hp)
theorem acyc_same {ps qs : List (Nat × Nat)} (h : Ok8 ps) (s : Same ps qs) : acyc ps = acyc qs:=by
 rw [Bool.eq_iff_iff,acyc_iff h,acyc_iff (h.same s)]
 exact forall_congr' fun k => not_congr ⟨.mono fun p => (s p).mp,.mono fun p => (s p).mpr⟩
theorem Ok8.swap {ps : List (Nat × Nat)} (h : Ok8 ps) : Ok8 (ps.map Prod.swap):=fun p hp => by
 obtain ⟨q,hq,rfl⟩:=lMp hp
 exact ⟨(h q hq).2,(h q hq).1⟩
theorem acyc_rev {ps : List (Nat × Nat)} (h : Ok8 ps) : acyc (ps.map Prod.swap) = acyc ps:=by
 rw [Bool.eq_iff_iff,acyc_iff h,acyc_iff h.swap]
 refine forall_congr' fun k => not_congr ⟨fun c => ?_,.rev⟩
 have:=c.rev
 rwa [List.map_map,show (Prod.swap ∘ Prod.swap : Nat × Nat → Nat × Nat) = id from funext fun p => rfl,List.map_id] at this
theorem acyc_both {ps : List (Nat × Nat)} (h : Ok8 ps) {p : Nat × Nat} (h1 : p ∈ ps) (h2 : p.swap ∈ ps) : acyc ps = false :=
 Bool.eq_false_iff.mpr fun q => (acyc_iff h).mp q p.1 (.trans (.base (a:=p.1) (b:=p.2) h1) (.base (a:=p.2) (b:=p.1) h2))
noncomputable def cnt (pre : List (Nat × Nat)) : List (Nat × Nat) → Nat
 | [] => cond (acyc pre) 1 0
 | p :: ps => cnt (pre ++ [p]) ps + cnt (pre ++ [p.swap]) ps
theorem ok_app {pre : List (Nat × Nat)} (h : Ok8 pre) {p : Nat × Nat} (hp : p.1 < 8 ∧ p.2 < 8) : Ok8 (pre ++ [p]):=fun q hq => (List.mem_append.mp hq).elim (h q) fun hq => sMp hq ▸ hp
theorem same_app {pre pre' : List (Nat × Nat)} (s : Same pre pre') (p : Nat × Nat) : Same (pre ++ [p]) (pre' ++ [p]):=fun q => by rw [List.mem_append,List.mem_append,s q]
theorem Ok8.cons {p : Nat × Nat} {ps : List (Nat × Nat)} (h : Ok8 (p :: ps)) : (p.1 < 8 ∧ p.2 < 8) ∧ (p.swap.1 < 8 ∧ p.swap.2 < 8) ∧ Ok8 ps:=⟨h p List.mem_cons_self,⟨(h p List.mem_cons_self).2,(h p List.mem_cons_self).1⟩,fun q hq => h q (List.mem_cons_of_mem _ hq)⟩
theorem cnt_same : ∀ {ps pre pre' : List (Nat × Nat)},Ok8 ps → Ok8 pre → Same pre pre' → cnt pre ps = cnt pre' ps
 | [],pre,pre',_,h,s => by unfold cnt;rw [acyc_same h s]
 | p :: ps,pre,pre',h,h',s => by
  obtain ⟨h1,h2,h3⟩:=h.cons
  unfold cnt
  rw [cnt_same h3 (ok_app h' h1) (same_app s p),cnt_same h3 (ok_app h' h2) (same_app s p.swap)]
theorem cnt_both {p : Nat × Nat} : ∀ {ps pre : List (Nat × Nat)},Ok8 ps → Ok8 pre → p ∈ pre → p.swap ∈ pre → cnt pre ps = 0
 | [],pre,_,h,h1,h2 => by unfold cnt;rw [acyc_both h h1 h2];rfl
 | q :: ps,pre,h,h',m1,m2 => by
  obtain ⟨h1,h2,h3⟩:=h.cons
  unfold cnt
  rw [cnt_both h3 (ok_app h' h1) (List.mem_append_left _ m1) (List.mem_append_left _ m2),cnt_both h3 (ok_app h' h2) (List.mem_append_left _ m1) (List.mem_append_left _ m2)]
theorem cnt_rev : ∀ {ps pre : List (Nat × Nat)},Ok8 ps → Ok8 pre → cnt (pre.map Prod.swap) ps = cnt pre ps
 | [],pre,_,h => by unfold cnt;rw [acyc_rev h]
 | p :: ps,pre,h,h' => by
  obtain ⟨h1,h2,h3⟩:=h.cons
  unfold cnt
  rw [← cnt_rev h3 (ok_app h' h1),← cnt_rev h3 (ok_app h' h2),List.map_append,List.map_append,Nat.add_comm]
  rfl
theorem same_two (pre : List (Nat × Nat)) (p q : Nat × Nat) : Same (pre ++ [p] ++ [q]) (pre ++ [q] ++ [p]):=fun x => by
 simp only [List.mem_append,List.mem_singleton]
 exact ⟨fun h => h.elim (fun h => h.elim (fun h => .inl (.inl h)) .inr) fun h => .inl (.inr h),fun h => h.elim (fun h => h.elim (fun h => .inl (.inl h)) .inr) fun h => .inl (.inr h)⟩
theorem cnt_perm {l l' : List (Nat × Nat)} (q : l.Perm l') : ∀ {pre : List (Nat × Nat)},Ok8 l → Ok8 pre → cnt pre l = cnt pre l':=by
 induction q with
 | nil => intro pre _ _;rfl
 | cons x _ ih =>
  intro pre h h'
  obtain ⟨h1,h2,h3⟩:=h.cons
  unfold cnt
  rw [ih h3 (ok_app h' h1),ih h3 (ok_app h' h2)]
 | swap x y l =>
  intro pre h h'
  obtain ⟨y1,y2,h3⟩:=h.cons
  obtain ⟨x1,x2,h4⟩:=h3.cons
  show cnt (pre ++ [y] ++ [x]) l + cnt (pre ++ [y] ++ [x.swap]) l + (cnt (pre ++ [y.swap] ++ [x]) l + cnt (pre ++ [y.swap] ++ [x.swap]) l) = cnt (pre ++ [x] ++ [y]) l + cnt (pre ++ [x] ++ [y.swap]) l + (cnt (pre ++ [x.swap] ++ [y]) l + cnt (pre ++ [x.swap] ++ [y.swap]) l)
  rw [cnt_same h4 (ok_app (ok_app h' y1) x1) (same_two pre y x),cnt_same h4 (ok_app (ok_app h' y1) x2) (same_two pre y x.swap),cnt_same h4 (ok_app (ok_app h' y2) x1) (same_two pre y.swap x),cnt_same h4 (ok_app (ok_app h' y2) x2) (same_two pre y.swap x.swap)]
  omega
 | trans p _ ih1 ih2 =>
  intro pre h h'
  rw [ih1 h h',ih2 (fun x hx => h x (p.mem_iff.mpr hx)) h']
theorem cnt_dup {p : Nat × Nat} {ps pre : List (Nat × Nat)} (h : Ok8 (p :: ps)) (h' : Ok8 pre) : cnt pre (p :: p :: ps) = cnt pre (p :: ps):=by
 obtain ⟨h1,h2,h3⟩:=h.cons
 have one : ∀ q,Same (pre ++ [q] ++ [q]) (pre ++ [q]):=fun q x => by
  rw [List.mem_append]
  exact ⟨fun z => z.elim id fun z => List.mem_append_right _ z,.inl⟩
 have m : ∀ q r : Nat × Nat,q ∈ pre ++ [q] ++ [r] ∧ r ∈ pre ++ [q] ++ [r]:=fun q r => ⟨List.mem_append_left _ (List.mem_append_right _ List.mem_cons_self),List.mem_append_right _ List.mem_cons_self⟩
 show cnt (pre ++ [p] ++ [p]) ps + cnt (pre ++ [p] ++ [p.swap]) ps + (cnt (pre ++ [p.swap] ++ [p]) ps + cnt (pre ++ [p.swap] ++ [p.swap]) ps) = cnt (pre ++ [p]) ps + cnt (pre ++ [p.swap]) ps
 rw [cnt_same h3 (ok_app (ok_app h' h1) h1) (one p),cnt_same h3 (ok_app (ok_app h' h2) h2) (one p.swap),cnt_both h3 (ok_app (ok_app h' h1) h2) (m p p.swap).1 (m p p.swap).2,cnt_both h3 (ok_app (ok_app h' h2) h1) (m p.swap p).2 (m p.swap p).1]
 omega
theorem cnt_loop {p : Nat × Nat} (e : p.swap = p) {ps pre : List (Nat × Nat)} (h : Ok8 (p :: ps)) (h' : Ok8 pre) : cnt pre (p :: ps) = 0:=by
 obtain ⟨h1,h2,h3⟩:=h.cons
 have m : p ∈ pre ++ [p]:=List.mem_append_right _ List.mem_cons_self
 unfold cnt
 rw [e,cnt_both h3 (ok_app h' h1) m (e.symm ▸ m)]
noncomputable def eg (p : Nat × Nat) : Nat × Nat:=if p.1 ≤ p.2 then p else p.swap
theorem eg_or (p : Nat × Nat) : eg p = p ∨ eg p = p.swap:=by unfold eg;split;exact .inl rfl;exact .inr rfl
theorem cnt_eg {p : Nat × Nat} {ps pre : List (Nat × Nat)} : cnt pre (eg p :: ps) = cnt pre (p :: ps):=by
 rcases eg_or p with e | e <;> rw [e]
 unfold cnt
 exact Nat.add_comm ..
noncomputable def E7 : List (Nat × Nat):=[(0,1),(0,2),(0,3),(1,2),(1,3),(2,3),(0,0)]
noncomputable def canon (ps : List (Nat × Nat)) : List (Nat × Nat):=E7.filter fun e => (ps.map eg).contains e
theorem canon_mem {ps : List (Nat × Nat)} {e : Nat × Nat} : e ∈ canon ps ↔ e ∈ E7 ∧ e ∈ ps.map eg:=by unfold canon;rw [List.mem_filter,List.contains_iff_mem]
theorem ok_E7 : Ok8 E7:=by unfold Ok8;decide
theorem ok_canon (ps : List (Nat × Nat)) : Ok8 (canon ps):=fun p hp => ok_E7 p (canon_mem.mp hp).1
theorem canon_nodup (ps : List (Nat × Nat)) : (canon ps).Nodup:=(show E7.Nodup by decide).sublist List.filter_sublist
noncomputable def Ok7 (ps : List (Nat × Nat)) : Prop:=∀ p ∈ ps,eg p ∈ E7
theorem Ok7.ok8 {ps : List (Nat × Nat)} (h : Ok7 ps) : Ok8 ps:=fun p hp => by
 have:=ok_E7 _ (h p hp)
 rcases eg_or p with e | e <;> rw [e] at this
 ·exact this
 ·exact ⟨this.2,this.1⟩
theorem cnt_canon : ∀ {ps pre : List (Nat × Nat)},Ok7 ps → Ok8 pre → cnt pre ps = cnt pre (canon ps)
 | [],pre,_,_ => rfl
 | p :: ps,pre,h,h' => by
  have h7 : Ok7 ps:=fun q hq => h q (List.mem_cons_of_mem _ hq)
  obtain ⟨h1,h2,h3⟩:=h.ok8.cons
  have he:=h p List.mem_cons_self
  have e1 : cnt pre (p :: ps) = cnt pre (eg p :: canon ps):=by
   rw [cnt_eg]
   unfold cnt
   rw [cnt_canon h7 (ok_app h' h1),cnt_canon h7 (ok_app h' h2)]
  have oe : Ok8 (eg p :: canon ps):=fun q hq => (cMp hq).elim (fun e => e ▸ ok_E7 _ he) (ok_canon ps q)
  rw [e1]
  by_cases m : eg p ∈ canon ps
  ·have ec : canon (p :: ps) = canon ps:=List.filter_congr fun e ζ => by
    rw [Bool.eq_iff_iff,List.contains_iff_mem,List.contains_iff_mem,List.map_cons,List.mem_cons]
    exact ⟨fun z => z.elim (fun z => z ▸ (canon_mem.mp m).2) id,.inr⟩
   rw [ec]
   have q:=List.perm_cons_erase m
   have or : Ok8 (eg p :: (canon ps).erase (eg p)):=fun x hx => ok_canon ps x (q.mem_iff.mpr hx)
   rw [cnt_perm (q.cons (eg p)) oe h',cnt_dup or h',← cnt_perm q (ok_canon ps) h']
  ·refine cnt_perm ((List.perm_ext_iff_of_nodup (List.nodup_cons.mpr ⟨m,canon_nodup ps⟩) (canon_nodup _)).mpr fun x => ?_) oe h'
   rw [List.mem_cons,canon_mem,canon_mem,List.map_cons,List.mem_cons]
   exact ⟨fun z => z.elim (fun z => ⟨z ▸ he,.inl z⟩) fun z => ⟨z.1,.inr z.2⟩,fun z => z.2.imp_right fun y => ⟨z.1,y⟩⟩
end
section
noncomputable def lines15 : List (List Nat):=(List.range 2).flatMap fun b => (List.range (b + 2)).flatMap fun c => (List.range (max b c + 2)).map fun d => [0,b,c,d]
noncomputable def mark (l : List Nat) (k : Nat) : Nat:=(l[k]?).getD 0
noncomputable def lineOk (ps : List (Nat × Nat)) (l : List Nat) : Bool:=!ps.any fun p => mark l p.1 == mark l p.2
noncomputable def wgt (l : List Nat) : Int:=([-1,2,-6,24][l.foldl max 0]?).getD 0
noncomputable def partN (ps : List (Nat × Nat)) : Int:=(lines15.map fun l => cond (lineOk ps l) (wgt l) 0).sum
theorem mark_eg (l : List Nat) (p : Nat × Nat) : (mark l (eg p).1 == mark l (eg p).2) = (mark l p.1 == mark l p.2):=by
 rcases eg_or p with e | e <;> rw [e]
 rw [Bool.eq_iff_iff,beq_iff_eq,beq_iff_eq]
 exact eq_comm
theorem line_canon {ps : List (Nat × Nat)} (h : Ok7 ps) (l : List Nat) : lineOk ps l = lineOk (canon ps) l:=by
 unfold lineOk
 congr 1
 rw [Bool.eq_iff_iff,List.any_eq_true,List.any_eq_true]
 constructor
 ·rintro ⟨p,hp,e⟩
  exact ⟨eg p,canon_mem.mpr ⟨h p hp,List.mem_map_of_mem hp⟩,(mark_eg l p).trans e⟩
 ·rintro ⟨e,he,q⟩
  obtain ⟨p,hp,rfl⟩:=lMp (canon_mem.mp he).2
  exact ⟨p,hp,(mark_eg l p).symm.trans q⟩
theorem part_canon {ps : List (Nat × Nat)} (h : Ok7 ps) : partN ps = partN (canon ps):=by
 unfold partN
 rw [show (fun l => cond (lineOk ps l) (wgt l) 0) = fun l => cond (lineOk (canon ps) l) (wgt l) 0 from funext fun l => by rw [line_canon h]]
noncomputable def E6 : List (Nat × Nat):=[(0,1),(0,2),(0,3),(1,2),(1,3),(2,3)]
noncomputable def pk (bs : List Bool) : List (Nat × Nat):=((E6.zip bs).filter (·.2)).map (·.1)
theorem pk_filter {α : Type} (f : α → Bool) : ∀ l : List α,((l.zip (l.map f)).filter (·.2)).map (·.1) = l.filter f
 | [] => rfl
 | a :: l => by
  rw [List.map_cons,List.zip_cons_cons,List.filter_cons,List.filter_cons]
  cases hf : f a with
  | true => exact congrArg (a :: ·) (pk_filter f l)
  | false => exact pk_filter f l
noncomputable def ranks : List (List Nat):=[[0,1,2,3],[0,1,3,2],[0,2,1,3],[0,2,3,1],[0,3,1,2],[0,3,2,1],[1,0,2,3],[1,0,3,2],[1,2,0,3],[1,2,3,0],[1,3,0,2],[1,3,2,0],[2,0,1,3],[2,0,3,1],[2,1,0,3],[2,1,3,0],[2,3,0,1],[2,3,1,0],[3,0,1,2],[3,0,2,1],[3,1,0,2],[3,1,2,0],[3,2,0,1],[3,2,1,0]]
noncomputable def rings4 : List (List Nat):=[[0,1,2,0],[0,2,1,0],[0,1,3,0],[0,3,1,0],[0,2,3,0],[0,3,2,0],[1,2,3,1],[1,3,2,1],[0,1,2,3,0],[0,1,3,2,0],[0,2,1,3,0],[0,2,3,1,0],[0,3,1,2,0],[0,3,2,1,0]]
noncomputable def leaf4 (ps : List (Nat × Nat)) : Option Nat:=if (ranks.any fun r => ps.all fun p => decide (mark r p.1 < mark r p.2)) = true then some 1 else if (rings4.any fun c => (adj c).all ps.contains) = true then some 0 else none
noncomputable def cnt4 (pre : List (Nat × Nat)) : List (Nat × Nat) → Option Nat
 | [] => leaf4 pre
 | p :: ps => (cnt4 (pre ++ [p]) ps).bind fun a => (cnt4 (pre ++ [p.swap]) ps).map (a + ·)
set_option tactic.hygienic true in
theorem leaf4_ok {ps : List (Nat × Nat)} (h : Ok8 ps) {n : Nat} (e : leaf4 ps = some n) : cond (acyc ps) 1 0 = n:=by
 unfold leaf4 at e
 split at e
 ·rename_i q
  obtain rfl:=Option.some.inj e
  obtain ⟨r,_,q⟩:=List.any_eq_true.mp q
  have key : ∀ a b,Con ps a b → mark r a < mark r b:=fun a b c => by
   induction c with
   | base m => exact decide_eq_true_eq.mp (List.all_eq_true.mp q _ m)
   | trans _ _ x y => exact Nat.lt_trans x y
  rw [(acyc_iff h).mpr fun k c => Nat.lt_irrefl _ (key k k c)]
  rfl
 ·split at e
  ·rename_i q
   obtain rfl:=Option.some.inj e
   obtain ⟨c,hc,q⟩:=List.any_eq_true.mp q
   have hz : ∀ c ∈ rings4,∃ z l,c = z :: l ∧ z ∈ l:=by
    have : ∀ c ∈ rings4,c.head?.any (fun z => c.tail.contains z) = true:=by decide
    intro c hc
    cases c with
    | nil => cases this _ hc
    | cons z l => exact ⟨z,l,rfl,List.contains_iff_mem.mp (this _ hc)⟩
   obtain ⟨z,l,rfl,m⟩:=hz c hc
   have k : Con ps z z:=to_all (S:=Con ps) (fun ζ ζ ζ => .trans) (fun p hp => .base (List.contains_iff_mem.mp (List.all_eq_true.mp q p hp))) m
   rw [Bool.eq_false_iff.mpr fun q => (acyc_iff h).mp q z k]
   rfl
  ·cases e
theorem cnt4_ok : ∀ {ps pre : List (Nat × Nat)} {n : Nat},Ok8 ps → Ok8 pre → cnt4 pre ps = some n → cnt pre ps = n
 | [],pre,n,_,h,e => leaf4_ok h e
 | p :: ps,pre,n,h,h',e => by
  obtain ⟨h1,h2,h3⟩:=h.cons
  obtain ⟨a,e1,e⟩:=bMp e
  obtain ⟨b,e2,rfl⟩:=oMp e
  unfold cnt
  rw [cnt4_ok h3 (ok_app h' h1) e1,cnt4_ok h3 (ok_app h' h2) e2]
set_option maxRecDepth 100000 in
theorem check6 : ∀ b0 b1 b2 b3 b4 b5 : Bool,Option.map Int.ofNat (cnt4 [] (pk [b0,b1,b2,b3,b4,b5])) = some (partN (pk [b0,b1,b2,b3,b4,b5])):=by decide +kernel
theorem ok_pk (bs : List Bool) : Ok8 (pk bs):=fun p hp => by
 obtain ⟨q,hq,rfl⟩:=lMp hp
 exact (show Ok8 E6 by unfold Ok8;decide) _ (List.of_mem_zip (fMp hq).1).1
theorem check_cnt (b0 b1 b2 b3 b4 b5 : Bool) : (cnt [] (pk [b0,b1,b2,b3,b4,b5]) : Int) = partN (pk [b0,b1,b2,b3,b4,b5]):=by
 obtain ⟨n,e1,e2⟩:=oMp (check6 b0 b1 b2 b3 b4 b5)
 have o0 : Ok8 []:=nofun
 rw [cnt4_ok (ok_pk _) o0 e1]
 exact e2
theorem part_loop {ps : List (Nat × Nat)} (h : (0,0) ∈ ps) : partN ps = 0:=by
 have e : ∀ l,lineOk ps l = false:=fun l => by
  unfold lineOk
  rw [Bool.not_eq_false',List.any_eq_true]
  exact ⟨(0,0),h,beq_iff_eq.mpr rfl⟩
 unfold partN
 simp only [e]
 kernel_rfl
theorem cnt_part {ps : List (Nat × Nat)} (h : Ok7 ps) : (cnt [] ps : Int) = partN ps:=by
 have o0 : Ok8 []:=nofun
 rw [cnt_canon h o0,part_canon h]
 by_cases m : (0,0) ∈ canon ps
 ·have q:=List.perm_cons_erase m
  rw [cnt_perm q (ok_canon ps) o0,cnt_loop rfl (fun x hx => ok_canon ps x (q.mem_iff.mpr hx)) o0,part_loop m]
  rfl
 ·have e : canon ps = E6.filter fun e => (ps.map eg).contains e:=by
   have e7 : E7 = E6 ++ [(0,0)]:=rfl
   have f : ((ps.map eg).contains (0,0)) = false:=Bool.eq_false_iff.mpr fun z => m (canon_mem.mpr ⟨by decide,List.contains_iff_mem.mp z⟩)
   rw [canon,e7,List.filter_append,List.filter_cons_of_neg (by rw [f];exact Bool.false_ne_true)]
   exact List.append_nil _
  rw [e,← pk_filter]
  exact check_cnt _ _ _ _ _ _
noncomputable def waysN (ps : List (Nat × Nat)) : List (List (Nat × Nat)):=ps.tail.foldl (fun made p => made.flatMap fun w => [w ++ [p],w ++ [p.swap]]) [ps.take 1]
theorem ways_cnt : ∀ (ps : List (Nat × Nat)) (made : List (List (Nat × Nat))),((ps.foldl (fun made p => made.flatMap fun w => [w ++ [p],w ++ [p.swap]]) made).filter acyc).length = (made.map fun w => cnt w ps).sum
 | [],made => by
  induction made with
  | nil => rfl
  | cons w made ih =>
   rw [List.map_cons,List.sum_cons,List.foldl_nil,List.filter_cons] at *
   show _ = cond (acyc w) 1 0 + _
   cases acyc w with
   | true => rw [← ih];exact Nat.add_comm ..
   | false => rw [← ih,cond_false,Nat.zero_add,if_neg Bool.false_ne_true]
 | p :: ps,made => by
  rw [List.foldl_cons,ways_cnt ps]
  induction made with
  | nil => rfl
  | cons w made ih =>
   rw [List.flatMap_cons,List.map_append,List.sum_append,ih,List.map_cons,List.sum_cons]
   rfl
noncomputable def toldN (ps : List (Nat × Nat)) : Nat:=((waysN ps).filter acyc).length
theorem told_part {ps : List (Nat × Nat)} (h : Ok7 ps) : ((toldN ps * (if ps = [] then 1 else 2) : Nat) : Int) = partN ps:=by
 rw [toldN,waysN,ways_cnt]
 cases ps with
 | nil => kernel_rfl
 | cons p ps =>
  obtain ⟨h1,h2,h3⟩:=h.ok8.cons
  rw [← cnt_part h,if_neg (List.cons_ne_nil _ _)]
  have e:=cnt_rev h3 (ok_app (pre:=[]) nofun h1)
  show (((cnt [p] ps + 0) * 2 : Nat) : Int) = ((cnt [p] ps + cnt [p.swap] ps : Nat) : Int)
  rw [show cnt [p.swap] ps = cnt [p] ps from e]
  congr 1
  omega
end
section
noncomputable def kS (x : String) (t : Nat) : Value:=.str (Str.ofString x) t
noncomputable def kE (P : Params) (x : String) (t : Nat) (v : Value) : DictEntry:=⟨PyData.keyHash P (Str.ofString x),.str (Str.ofString x) t,v⟩
noncomputable def kD (es : List DictEntry) (n : Nat) : Obj:={ cls:=.type "dict",data:=.dict es.toArray n }
noncomputable def kT (vs : List Value) : Obj:={ cls:=.type "tuple",data:=.seq vs.toArray }
noncomputable def kC (vs : List Value) : Obj:={ cls:=.type "code",data:=.fields vs.toArray }
noncomputable def kF (x : String) (i : Nat) (d m c : Value) : Obj:={ cls:=.type "function",data:=.func { name:=Str.ofString x,qualname:=Str.ofString x,params:=argsOf (nth PP.main.body i),body:=.stmts (bodyOf (nth PP.main.body i)),scope:=scopeOf (nth PP.main.body i),globals:=3,closure:=[],defaults:=d,kwdefaults:=.none,pyModule:=m,code:=c } }
noncomputable def KA (P : Params) : Frag:=[
 (3,kD [kE P "__name__" 165 (kS "law_oy0152_02" 371),kE P "__doc__" 166 (.none),kE P "__package__" 167 (.none),kE P "__loader__" 168 (.builtin "__main__.__loader__#opaque"),kE P "__spec__" 169 (.none),kE P "__annotations__" 170 (.ref 6),kE P "__builtins__" 171 (.ref 4),kE P "__file__" 173 (kS "/claim/cut.py" 172),kE P "__cached__" 174 (.none),kE P "_initial_missing" 189 (.ref 15),kE P "reduce" 201 (.ref 23),kE P "_c3_merge" 207 (.ref 28),kE P "Error" 229 (.ref 38),kE P "error_reply" 245 (.ref 51),kE P "error_proto" 261 (.ref 63),kE P "parse229" 274 (.ref 72),kE P "parse257" 285 (.ref 79),kE P "S_IFMT" 294 (.ref 86),kE P "S_IFDIR" 296 (.int 16384 295),kE P "S_IFCHR" 298 (.int 8192 297),kE P "S_IFBLK" 300 (.int 24576 299),kE P "S_IFREG" 302 (.int 32768 301),kE P "S_IFIFO" 304 (.int 4096 303),kE P "S_IFLNK" 306 (.int 40960 305),kE P "S_IFSOCK" 308 (.int 49152 307),kE P "S_ISUID" 310 (.int 2048 309),kE P "S_ISGID" 312 (.int 1024 311),kE P "S_ISVTX" 314 (.int 512 313),kE P "S_IRUSR" 316 (.int 256 315),kE P "S_IWUSR" 318 (.int 128 317),kE P "S_IXUSR" 320 (.int 64 319),kE P "S_IRGRP" 322 (.int 32 321),kE P "S_IWGRP" 324 (.int 16 323),kE P "S_IXGRP" 326 (.int 8 325),kE P "S_IROTH" 328 (.int 4 327),kE P "S_IWOTH" 330 (.int 2 329),kE P "S_IXOTH" 332 (.int 1 331),kE P "_filemode_table" 358 (.ref 119),kE P "filemode" 370 (.ref 126),kE P "_law_said" 380 (.ref 133),kE P "_law_talk" 386 (.ref 138),kE P "_law_heard" 400 (.ref 145),kE P "_law_listing" 410 (.ref 152),kE P "_law_odds" 419 (.ref 159),kE P "_law_clash" 425 (.ref 164),kE P "_law_tried" 431 (.ref 169),kE P "_law_partings" 437 (.ref 174),kE P "law" 443 (.ref 179)] 48),
 (15,{ cls:=.type "object" }),
 (16,kT [.ref 15]),
 (22,kC [kS "reduce" 190,kS "reduce" 191,kS "/claim/cut.py" 192,.int 3 0,.int 3 0,.int 0 0,.int 0 0,.int 3 0,.ref 17,.bool true,.int 181 0,.ref 18,.none,.ref 19,.ref 20,.ref 21,.int 199 0,.int 3 0,kS "/claim/cut.py" 200]),
 (23,kF "reduce" 2 (.ref 16) (kS "cpy313.functools" 187) (.ref 22)),
 (27,kC [kS "_c3_merge" 202,kS "_c3_merge" 203,kS "/claim/cut.py" 204,.int 15 0,.int 1 0,.int 0 0,.int 0 0,.int 3 0,.ref 24,.bool true,.int 181 0,.ref 25,.none,.none,.none,.ref 26,.int 205 0,.int 15 0,kS "/claim/cut.py" 206]),
 (28,kF "_c3_merge" 3 (.none) (kS "cpy313.functools" 187) (.ref 27)),
 (37,kD [kE P "__module__" 217 (kS "cpy313.ftplib" 208),kE P "__firstlineno__" 221 (.int 36 220),kE P "__static_attributes__" 222 (.ref 36),kE P "__weakref__" 224 (.ref 39),kE P "__doc__" 225 (.none)] 3),
 (38,{ cls:=.type "type",data:=Data.cls { name:=Str.ofString "Error",bases:=[.type "Exception"],mro:=[.ref 38,.type "Exception",.type "BaseException",.type "object"],ns:=37,qualname:=Str.ofString "Error",subclasses:=[.ref 51,.ref 63] },slots:=#[some (.ref 29),none,some (kS "Error" 210),some (kS "Error" 218),some (.builtin "Exception.__new__"),some (.bool true)] }),
 (50,kD [kE P "__module__" 237 (kS "cpy313.ftplib" 208),kE P "__firstlineno__" 241 (.int 38 240),kE P "__static_attributes__" 242 (.ref 49),kE P "__doc__" 243 (.none)] 2),
 (51,{ cls:=.type "type",data:=Data.cls { name:=Str.ofString "error_reply",bases:=[.ref 38],mro:=[.ref 51,.ref 38,.type "Exception",.type "BaseException",.type "object"],ns:=50,qualname:=Str.ofString "error_reply" },slots:=#[some (.ref 42),none,some (kS "error_reply" 230),some (kS "error_reply" 238),some (.builtin "Exception.__new__"),some (.bool true)] }),
 (62,kD [kE P "__module__" 253 (kS "cpy313.ftplib" 208),kE P "__firstlineno__" 257 (.int 40 256),kE P "__static_attributes__" 258 (.ref 61),kE P "__doc__" 259 (.none)] 2),
 (63,{ cls:=.type "type",data:=Data.cls { name:=Str.ofString "error_proto",bases:=[.ref 38],mro:=[.ref 63,.ref 38,.type "Exception",.type "BaseException",.type "object"],ns:=62,qualname:=Str.ofString "error_proto" },slots:=#[some (.ref 54),none,some (kS "error_proto" 246),some (kS "error_proto" 254),some (.builtin "Exception.__new__"),some (.bool true)] }),
 (71,kC [kS "parse229" 262,kS "parse229" 263,kS "/claim/cut.py" 264,.int 42 0,.int 2 0,.int 0 0,.int 0 0,.int 3 0,.ref 66,.bool true,.int 181 0,.ref 67,.none,.ref 68,.ref 69,.ref 70,.int 272 0,.int 42 0,kS "/claim/cut.py" 273]),
 (72,kF "parse229" 8 (.none) (kS "cpy313.ftplib" 208) (.ref 71)),
 (78,kC [kS "parse257" 275,kS "parse257" 276,kS "/claim/cut.py" 277,.int 59 0,.int 1 0,.int 0 0,.int 0 0,.int 3 0,.ref 73,.bool true,.int 181 0,.ref 74,.none,.ref 75,.ref 76,.ref 77,.int 283 0,.int 59 0,kS "/claim/cut.py" 284]),
 (79,kF "parse257" 9 (.none) (kS "cpy313.ftplib" 208) (.ref 78)),
 (85,kC [kS "S_IFMT" 288,kS "S_IFMT" 289,kS "/claim/cut.py" 290,.int 77 0,.int 1 0,.int 0 0,.int 0 0,.int 3 0,.ref 80,.bool true,.int 181 0,.ref 81,.none,.ref 82,.ref 83,.ref 84,.int 292 0,.int 77 0,kS "/claim/cut.py" 293]),
 (86,kF "S_IFMT" 11 (.none) (kS "cpy313.stat" 286) (.ref 85)),
 (87,kT [.int 40960 305,kS "l" 333]),
 (88,kT [.int 49152 307,kS "s" 334]),
 (89,kT [.int 32768 301,kS "-" 335]),
 (90,kT [.int 24576 299,kS "b" 336]),
 (91,kT [.int 16384 295,kS "d" 337]),
 (92,kT [.int 8192 297,kS "c" 338]),
 (93,kT [.int 4096 303,kS "p" 339]),
 (94,kT [.ref 87,.ref 88,.ref 89,.ref 90,.ref 91,.ref 92,.ref 93]),
 (95,kT [.int 256 315,kS "r" 340]),
 (96,kT [.ref 95]),
 (97,kT [.int 128 317,kS "w" 341]),
 (98,kT [.ref 97]),
 (99,kT [.int 2112 342,kS "s" 343]),
 (100,kT [.int 2048 309,kS "S" 344]),
 (101,kT [.int 64 319,kS "x" 345]),
 (102,kT [.ref 99,.ref 100,.ref 101]),
 (103,kT [.int 32 321,kS "r" 346]),
 (104,kT [.ref 103]),
 (105,kT [.int 16 323,kS "w" 347]),
 (106,kT [.ref 105]),
 (107,kT [.int 1032 348,kS "s" 349]),
 (108,kT [.int 1024 311,kS "S" 350]),
 (109,kT [.int 8 325,kS "x" 351]),
 (110,kT [.ref 107,.ref 108,.ref 109]),
 (111,kT [.int 4 327,kS "r" 352]),
 (112,kT [.ref 111]),
 (113,kT [.int 2 329,kS "w" 353]),
 (114,kT [.ref 113]),
 (115,kT [.int 513 354,kS "t" 355]),
 (116,kT [.int 512 313,kS "T" 356]),
 (117,kT [.int 1 331,kS "x" 357]),
 (118,kT [.ref 115,.ref 116,.ref 117]),
 (119,kT [.ref 94,.ref 96,.ref 98,.ref 102,.ref 104,.ref 106,.ref 110,.ref 112,.ref 114,.ref 118]),
 (125,kC [kS "filemode" 359,kS "filemode" 360,kS "/claim/cut.py" 361,.int 99 0,.int 1 0,.int 0 0,.int 0 0,.int 3 0,.ref 120,.bool true,.int 181 0,.ref 121,.none,.ref 122,.ref 123,.ref 124,.int 368 0,.int 99 0,kS "/claim/cut.py" 369]),
 (126,kF "filemode" 32 (.none) (kS "cpy313.stat" 286) (.ref 125)),
 (132,kC [kS "_law_said" 373,kS "_law_said" 374,kS "/claim/cut.py" 375,.int 117 0,.int 2 0,.int 0 0,.int 0 0,.int 3 0,.ref 127,.bool true,.int 181 0,.ref 128,.none,.ref 129,.ref 130,.ref 131,.int 378 0,.int 117 0,kS "/claim/cut.py" 379]),
 (133,kF "_law_said" 34 (.none) (kS "law_oy0152_02" 371) (.ref 132)),
 (137,kC [kS "_law_talk" 381,kS "_law_talk" 382,kS "/claim/cut.py" 383,.int 121 0,.int 4 0,.int 0 0,.int 0 0,.int 3 0,.ref 134,.bool true,.int 181 0,.ref 135,.none,.none,.none,.ref 136,.int 384 0,.int 121 0,kS "/claim/cut.py" 385]),
 (138,kF "_law_talk" 35 (.none) (kS "law_oy0152_02" 371) (.ref 137)),
 (144,kC [kS "_law_heard" 387,kS "_law_heard" 388,kS "/claim/cut.py" 389,.int 129 0,.int 2 0,.int 0 0,.int 0 0,.int 3 0,.ref 139,.bool true,.int 181 0,.ref 140,.none,.ref 141,.ref 142,.ref 143,.int 398 0,.int 129 0,kS "/claim/cut.py" 399]),
 (145,kF "_law_heard" 36 (.none) (kS "law_oy0152_02" 371) (.ref 144)),
 (151,kC [kS "_law_listing" 401,kS "_law_listing" 402,kS "/claim/cut.py" 403,.int 143 0,.int 1 0,.int 0 0,.int 0 0,.int 3 0,.ref 146,.bool true,.int 181 0,.ref 147,.none,.ref 148,.ref 149,.ref 150,.int 408 0,.int 143 0,kS "/claim/cut.py" 409]),
 (152,kF "_law_listing" 37 (.none) (kS "law_oy0152_02" 371) (.ref 151)),
 (158,kC [kS "_law_odds" 411,kS "_law_odds" 412,kS "/claim/cut.py" 413,.int 149 0,.int 2 0,.int 0 0,.int 0 0,.int 3 0,.ref 153,.bool true,.int 181 0,.ref 154,.none,.ref 155,.ref 156,.ref 157,.int 417 0,.int 149 0,kS "/claim/cut.py" 418]),
 (159,kF "_law_odds" 38 (.none) (kS "law_oy0152_02" 371) (.ref 158)),
 (163,kC [kS "_law_clash" 420,kS "_law_clash" 421,kS "/claim/cut.py" 422,.int 156 0,.int 2 0,.int 0 0,.int 0 0,.int 3 0,.ref 160,.bool true,.int 181 0,.ref 161,.none,.none,.none,.ref 162,.int 423 0,.int 156 0,kS "/claim/cut.py" 424]),
 (164,kF "_law_clash" 39 (.none) (kS "law_oy0152_02" 371) (.ref 163)),
 (168,kC [kS "_law_tried" 426,kS "_law_tried" 427,kS "/claim/cut.py" 428,.int 158 0,.int 2 0,.int 0 0,.int 0 0,.int 3 0,.ref 165,.bool true,.int 181 0,.ref 166,.none,.none,.none,.ref 167,.int 429 0,.int 158 0,kS "/claim/cut.py" 430]),
 (169,kF "_law_tried" 40 (.none) (kS "law_oy0152_02" 371) (.ref 168)),
 (173,kC [kS "_law_partings" 432,kS "_law_partings" 433,kS "/claim/cut.py" 434,.int 169 0,.int 1 0,.int 0 0,.int 0 0,.int 3 0,.ref 170,.bool true,.int 181 0,.ref 171,.none,.none,.none,.ref 172,.int 435 0,.int 169 0,kS "/claim/cut.py" 436]),
 (174,kF "_law_partings" 41 (.none) (kS "law_oy0152_02" 371) (.ref 173)),
 (178,kC [kS "law" 438,kS "law" 439,kS "/claim/cut.py" 440,.int 178 0,.int 1 0,.int 0 0,.int 0 0,.int 3 0,.ref 175,.bool true,.int 181 0,.ref 176,.none,.none,.none,.ref 177,.int 441 0,.int 178 0,kS "/claim/cut.py" 442]),
 (179,kF "law" 42 (.none) (kS "law_oy0152_02" 371) (.ref 178))]
noncomputable def asA : List Addr:=[3,15,16,22,23,27,28,37,38,50,51,62,63,71,72,78,79,85,86,87,88,89,90,91,92,93,94,95,96,97,98,99,100,101,102,103,104,105,106,107,108,109,110,111,112,113,114,115,116,117,118,119,125,126,132,133,137,138,144,145,151,152,158,159,163,164,168,169,173,174,178,179]
theorem asA_eq (P : Params) : asA = (KA P).map (·.1):=by kernel_rfl
noncomputable def viewA : Program:={ PP with main:={ PP.main with body:=[1,3,5,6,7,8,9,11,12,13,14,15,16,17,18,19,20,21,22,23,24,25,26,27,28,29,30,31,32,34,35,36,37,38,39,40,41,42].map (nth PP.main.body) } }
noncomputable def looseA : List Str:=[Str.ofString "_initial_missing",Str.ofString "reduce",Str.ofString "_filemode_table"]
theorem saidA : OpenLaw.wellSaid Challenge.rw_oy0152_02 = true:=by kernel_rfl
noncomputable abbrev hookA : Hook:=kHook KA asA asA_eq
theorem leftA : LeftO PP viewA looseA (fun s => xlAt viewA [] s && recOk (RowW.records Challenge.rw_oy0152_02.row.toRowW) s) hookA.obs hookA.val 3114:=by
 intro w
 kernel_rfl
noncomputable def defA : DefRec × List (Str × Expr):=(defOf viewA (Str.ofString "law")).getD (⟨default,default,default,default,⟨0,0,0,0⟩⟩,[])
theorem topA (walk : WalkO viewA looseA (XL viewA []) hookA.says Challenge.rw_oy0152_02.row.toRowW defA.1 defA.2 fun f vs => PySem.call f vs) : Challenge.rw_oy0152_02.Holds :=
 holds_law saidA fun said => holds_open leftA hookA.of hookA.keeps (fun s e => xl_of s (aMp e).1) XL.keeps (by kernel_rfl) (by kernel_rfl) (by kernel_rfl) (fun s e => recFacts_of (aMp e).2) (by kernel_rfl) said (by kernel_rfl)
  ⟨rfl,rfl,rfl,rfl,rfl,by decide +kernel⟩ ⟨[.list []],by decide +kernel,by decide +kernel⟩ walk
end
section
variable [bs : Base]
section
variable {prog : Program} {w : World} {T : Tab} {hb : Heap} {mg mb : Str → Option Value} {cl : Str → Option Value} {n : Nat} {A : Around} {s : Shared} {env : Env} {E : Value → Shared → Prop}
variable {sc : Names} {hF : Heap} {O : Addr → Prop} {ρ : Vars} {r : Evs}
theorem fn_eval (G : Gl prog w T hb mg mb) (Sx : ExOk prog w hb false n r.ex) (Sf : FnOk prog w hb mg cl n r.fn) (rm : Rm false hb n A) {f : Str} {np pos : Pos} {args : List Expr} {ds : List PyData} {res : Except Ex PyData} (hg : sc.lookup f = some .globalImplicit)
  (h1 : evList r sc ρ args = some ds) (hf : r.fn f ds = some res) (F : Fx prog w hb sc hF O s.heap env ρ) (K : Stk hb A s.heap)
  {Q : Value → Shared → Prop} (hQ : ∀ d,res = .ok d → ∀ v s',Post prog w O s s' v d → Q v s')
  (hE : ∀ x,res = .error x → ∀ e h₁ h' tk C,cl x.cls = some C → Keep s.heap h₁ → Fly2 h₁ h' e C x.word .none → E (.ref e) { s with heap:=h',toks:=tk }) : wpAny (model prog w) A (eval (.Call (.Name f np) args [] pos) env) Q E s:=by
 obtain ⟨a,e,⟨o,fd,ho,hc,hd⟩,call⟩:=Sf f ds _ hf
 refine wpAny_Call_Name_kw (nameG_ok G F hg e ?_)
 refine Calls.callWith_function (o:=o) (fd:=fd) (evArgs_ok Sx rm h1 F K fun vs h' tk k rs => ⟨?_,?_⟩)
 ·exact ⟨(F.base.trans k).same ho hc,hd⟩
 ·exact call A { s with heap:=h',toks:=tk } O vs Q E rm (F.base.trans k) (F.F.old.keep k) F.onew rs (K.keep k) (fun d'' e' v s' p => hQ d'' e' v s' (post_trans rfl k p))
   fun x e' ea h'' tk' C hC k' fl => hE x e' ea h' h'' tk' C hC k (Fly2.of_fly k' fl)
theorem handleBy_b {e : Addr} {c' : Value} {b : Bool} {t : Expr} {nm : Str} {b₀ : Stmt} {suite : List Stmt} {pos : Pos} {rest : List ExceptHandler} {Q : Flow → Shared → Prop}
  (h : wpAny (model prog w) (A.mark (some (.ref e))) (eval t env) (fun c s₁ => c = c' ∧ (∀ (A' : Around) (E' : Value → Shared → Prop) (Q' : Bool → Shared → Prop),Q' b s₁ → wpAny (model prog w) A' (excMatches (.ref e) c') Q' E' s₁) ∧
   if b then wpAny (model prog w) (A.mark (some (.ref e))) (setFlight (.ref e) none) (fun ζ s₂ =>
     wpAny (model prog w) (A.mark (some (.ref e))) (storeName env nm (.ref e)) (fun ζ s₃ =>
      wpAny (model prog w) (A.mark (some (.ref e))) (execs (b₀ :: suite) env)
       (fun f s₄ => wpAny (model prog w) A (do bindName env nm .none;unbindBehindTheSuite env nm pos) (fun ζ s₅ => Q f s₅) E s₄) (fun ζ ζ => False) s₃) (fun ζ ζ => False) s₂) (fun ζ ζ => False) s₁
   else wpAny (model prog w) A (handleBy (.ref e) env rest) Q E s₁) (fun ζ ζ => False) s) :
  wpAny (model prog w) A (handleBy (.ref e) env (.ExceptHandler (some t) (some nm) (b₀ :: suite) pos :: rest)) Q E s:=by
 refine wpAny_handleBy_cons (codeAny_handlers_test (wpAny_mono h (fun c s₁ h₁ => ?_) fun ζ ζ y => y.elim)) (by intro q;cases q)
 obtain ⟨rfl,hm,hk⟩:=h₁
 refine hm _ _ _ ?_
 cases b with
 | true =>
  simp only [if_true] at hk ⊢
  exact codeAny_handlers_suite_as (wpAny_mono hk (fun ζ s₂ h₂ => wpAny_mono h₂ (fun ζ s₃ h₃ => wpAny_mono h₃ (fun ζ ζ q => q) fun ζ ζ f => f.elim) fun ζ ζ f => f.elim) fun ζ ζ f => f.elim)
 | false => exact hk
structure Xs (prog : Program) (w : World) (hb : Heap) (mg : Str → Option Value) (Cr Cp : Addr) : Prop where
 gr : mg (Str.ofString "error_reply") = some (.ref Cr)
 gp : mg (Str.ofString "error_proto") = some (.ref Cp)
 str : ∀ C,(C = Cr ∨ C = Cp) → ∀ (A : Around) (E : Value → Shared → Prop) (s : Shared) (e t0 : Addr) (m : Str) (tk : Tok) (Q : Value → Shared → Prop),A.units + 10 < cLine → Keep hb s.heap →
  (∃ oe vs,s.heap.get? e = some oe ∧ oe.cls = .ref C ∧ oe.data = .fields vs ∧ vs[0]? = some (.ref t0)) → PT s.heap t0 [.str m tk] → Q (.str m tk) s → wpAny (model prog w) A (call (.type "str") [.ref e]) Q E s
 mat : ∀ C C',(C = Cr ∨ C = Cp) → (C' = Cr ∨ C' = Cp) → ∀ (A : Around) (E : Value → Shared → Prop) (s : Shared) (e : Addr) (Q : Bool → Shared → Prop),Keep hb s.heap → (∃ oe,s.heap.get? e = some oe ∧ oe.cls = .ref C) → Q (C == C') s →
  wpAny (model prog w) A (excMatches (.ref e) (.ref C')) Q E s
theorem tuple3 {e1 e2 e3 : Expr} {k : Nat} {pos : Pos} {Q : Value → Shared → Prop} (h1 : isStar e1 = false) (h2 : isStar e2 = false) (h3 : isStar e3 = false)
  (h : wpAny (model prog w) A (eval e1 env) (fun v1 s₁ => wpAny (model prog w) A (eval e2 env) (fun v2 s₂ => wpAny (model prog w) A (eval e3 env) (fun v3 s₃ => ∀ t' h',s₃.heap.get? t' = none → PT h' t' [v1,v2,v3] → Keep s₃.heap h' → Q (.ref t') { s₃ with heap:=h' }) E s₂) E s₁) E s) :
  wpAny (model prog w) A (eval (.Tuple [e1,e2,e3] k pos) env) Q E s:=by
 show wpAny _ _ (do standAt pos;newTuple (← spliced (backTo pos (starEach [e1,e2,e3] env)))) Q E s
 rw [starEach_cons h1,starEach_cons h2,starEach_cons h3,backTo_cons,backTo_cons,backTo_cons]
 refine wpAny_bind (wpAny_standAt (wpAny_bind (Calls.spliced_cons (wpAny_mono h (fun v1 s₁ g => Calls.spliced_cons (wpAny_mono g (fun v2 s₂ g => Calls.spliced_cons (wpAny_mono g (fun v3 s₃ g => Calls.spliced_nil ?_) fun ζ ζ e => e)) fun ζ ζ e => e)) fun ζ ζ e => e))))
 refine wpAny_newObj_type ?_ (by show Array.size _ ≤ sizeLine;rw [sizeLine_eq];simp)
 exact g _ _ (fresh_size _) ⟨0,Heap.get?_push_size _ rfl⟩ (Keep.push _ _)
theorem list1 {e1 : Expr} {pos : Pos} {Q : Value → Shared → Prop} (h1 : isStar e1 = false)
  (h : wpAny (model prog w) A (eval e1 env) (fun v1 s₁ => ∀ a h',s₁.heap.get? a = none → PL h' a [v1] → Keep s₁.heap h' → Q (.ref a) { s₁ with heap:=h' }) E s) : wpAny (model prog w) A (eval (.List [e1] pos) env) Q E s:=by
 show wpAny _ _ (do standAt pos;newList (← spliced (backTo pos (starEach [e1] env)))) Q E s
 rw [starEach_cons h1,backTo_cons]
 refine wpAny_bind (wpAny_standAt (wpAny_bind (Calls.spliced_cons (wpAny_mono h (fun v1 s₁ g => Calls.spliced_nil ?_) fun ζ ζ e => e))))
 refine wpAny_newObj_type ?_ (by show Array.size _ ≤ sizeLine;rw [sizeLine_eq];simp)
 exact g _ _ (fresh_size _) ⟨0,Heap.get?_push_size _ rfl⟩ (Keep.push _ _)
theorem listAdd {e1 e2 : Expr} {pos : Pos} {Q : Value → Shared → Prop}
  (h : wpAny (model prog w) A (eval e1 env) (fun v1 s₁ => wpAny (model prog w) A (eval e2 env) (fun v2 s₂ => ∃ l b vs us,v1 = .ref l ∧ v2 = .ref b ∧ PL s₂.heap l vs ∧ PL s₂.heap b us ∧ vs.length + us.length ≤ 1048576 ∧
   ∀ a h',s₂.heap.get? a = none → PL h' a (vs ++ us) → Keep s₂.heap h' → Q (.ref a) { s₂ with heap:=h' }) E s₁) E s) : wpAny (model prog w) A (eval (.BinOp e1 .Add e2 pos) env) Q E s:=by
 refine wpAny_BinOp (wpAny_mono h (fun v1 s₁ g => wpAny_mono g (fun v2 s₂ g => ?_) fun ζ ζ e => e) fun ζ ζ e => e)
 obtain ⟨l,b,vs,us,rfl,rfl,hl,hb',hsz,hq⟩:=g
 exact add_rule hl.isList hb'.isList hsz (hq _ _ (fresh_size _) ⟨0,Heap.get?_push_size _ rfl⟩ (Keep.push _ _))
theorem strErr (G : Gl prog w T hb mg mb) {Cr Cp : Addr} (X : Xs prog w hb mg Cr Cp) {C e t0 : Addr} {m x : Str} {tk : Tok} {np ep pos : Pos} (hC : C = Cr ∨ C = Cp) (hu : A.units + 10 < cLine) (hg : sc.lookup (Str.ofString "str") = some .globalImplicit) (F : Fx prog w hb sc hF O s.heap env ρ)
  (vi : VarIs s.heap env sc x (.ref e)) (he : ∃ oe vs,s.heap.get? e = some oe ∧ oe.cls = .ref C ∧ oe.data = .fields vs ∧ vs[0]? = some (.ref t0)) (pt : PT s.heap t0 [.str m tk]) {Q : Value → Shared → Prop} (hQ : Q (.str m tk) s) :
  wpAny (model prog w) A (eval (.Call (.Name (Str.ofString "str") np) [.Name x ep] [] pos) env) Q E s:=by
 refine wpAny_Call_Name_kw (nameB_ok G F hg (by decide +kernel : blts.lookup (Str.ofString "str") = some "str") ?_)
 rw [starEach_cons rfl,backTo_cons]
 refine callWith_blt rfl (Calls.evalArgs_plain (Calls.spliced_cons (vi.name F.F (Calls.spliced_nil ?_))))
 exact X.str C hC _ _ _ e t0 m tk _ hu F.base he pt hQ
theorem catch_ok (G : Gl prog w T hb mg mb) {Cr Cp : Addr} (X : Xs prog w hb mg Cr Cp) {h₀ : Heap} {C C' e : Addr} {c nm x : Str} {np pos : Pos} {b₀ : Stmt} {suite : List Stmt} {rest : List ExceptHandler} (hC : C = Cr ∨ C = Cp) (hC' : C' = Cr ∨ C' = Cp) (hc : mg c = some (.ref C'))
  (hg : sc.lookup c = some .globalImplicit) (hn : sc.lookup nm = some .local) (hρ : ρ.lookup nm = none) (F₀ : Fx prog w hb sc hF O h₀ env ρ) (f : Fly2 h₀ s.heap e (.ref C) x .none) {Q : Flow → Shared → Prop}
  (hit : C = C' → ∀ h₂ tk₂ t0 tk0,Fx prog w hb sc hF O h₂ env ρ → KeepBut (OwnS hF O env) h₀ h₂ → Kept env sc [nm] h₀ h₂ → VarIs h₂ env sc nm (.ref e) → (∃ oe vs,h₂.get? e = some oe ∧ oe.cls = .ref C ∧ oe.data = .fields vs ∧ vs[0]? = some (.ref t0)) → PT h₂ t0 [.str x tk0] →
   wpAny (model prog w) (A.mark (some (.ref e))) (execs (b₀ :: suite) env) (fun f s₄ => wpAny (model prog w) A (do bindName env nm .none;unbindBehindTheSuite env nm pos) (fun ζ s₅ => Q f s₅) E s₄) (fun ζ ζ => False) { s with heap:=h₂,toks:=tk₂ })
  (miss : C ≠ C' → wpAny (model prog w) A (handleBy (.ref e) env rest) Q E s) :
  wpAny (model prog w) A (handleBy (.ref e) env (.ExceptHandler (some (.Name c np)) (some nm) (b₀ :: suite) pos :: rest)) Q E s:=by
 have F₁:=F₀.keeps f.keep
 obtain ⟨oe,vs,T',g1,g2,g3,g4,t0,g5⟩:=f.tb
 refine handleBy_b (b:=C == C') (nameG_ok G F₁ hg hc ⟨rfl,fun A' E' Q' hq => X.mat C C' hC hC' A' E' s e Q' F₁.base ⟨oe,g1,g2⟩ hq,?_⟩)
 cases hb' : C == C' with
 | false =>
  simp only [Bool.false_eq_true,if_false]
  exact miss (by simpa using hb')
 | true =>
  simp only [if_true]
  refine flight_ok (hb:=hb) (fr:=none) f fun h₁ f1 ζ ζ => ?_
  have F₁':=F₀.keeps f1.keep
  refine F₁'.F.storeV (s:={ s with heap:=h₁ }) (.inl hn) hρ fun h₂ tk₂ F₂ k₂ kp₂ vi₂ => ?_
  obtain ⟨t7,tk7,oe',vs',q1,q2,q3,q4,pt7⟩:=f1.keeps (k₂.mono fun b z => z.2) (fun b z => F₀.slot_old z) (by simp)
  obtain ⟨m,hm⟩:=F₀.ns
  exact hit (by simpa using hb') h₂ tk₂ t7 tk7 ⟨F₂,F₀.kb,F₀.onew⟩ (f1.keep.but.trans k₂) (((Kept.of_keep hm f1.keep).trans kp₂).mono fun y hy => by simpa using hy) vi₂ ⟨oe',vs',q1,q2,q3,q4⟩ pt7
end
end
section
variable [bs : Base]
noncomputable def objAt (K : Frag) (a : Addr) : Obj:=(K.lookup a).getD { cls:=.none }
noncomputable def funcAt (K : Frag) (a : Addr) : FuncData:=match (objAt K a).data with | .func fd => fd | _ => default
noncomputable def entsAt (K : Frag) (a : Addr) : Array DictEntry:=match (objAt K a).data with | .dict es _ => es | _ => #[]
noncomputable def fieldsAt (K : Frag) (v : Value) : Array Value:=match v with | .ref a => (match (objAt K a).data with | .fields vs => vs | _ => #[]) | _ => #[]
noncomputable def isDict (o : Obj) : Bool:=match o.data with | .dict _ _ => true | _ => false
set_option tactic.hygienic true in
theorem lookupM {α β : Type} [BEq α] [LawfulBEq α] {l : List (α × β)} {a : α} {b : β} (h : l.lookup a = some b) : (a,b) ∈ l:=by
 induction l with
 | nil => cases h
 | cons p r ih =>
  obtain ⟨x,y⟩:=p
  simp only [List.lookup] at h
  split at h
  ·rename_i q;obtain rfl:=Option.some.inj h;rw [beq_iff_eq.mp q];exact List.mem_cons_self
  ·exact List.mem_cons_of_mem _ (ih h)
theorem kIn_keep {K : Frag} {h h' : Heap} (X : K.In h) (k : Keep h h') (hc : K.all (fun p => !decide (p.2.cls = .type "frame")) = true) : K.In h':=by
 intro a o e
 refine k.same (X a o e) fun hf => ?_
 have:=List.all_eq_true.mp hc (a,o) (lookupM e)
 simp [hf] at this
theorem mg_of {K : Frag} {h : Heap} {mg : Str → Option Value} (X : K.In h) (g : h.Ns mainGlobals mg) (e : K.lookup mainGlobals = some (objAt K mainGlobals)) (hd : isDict (objAt K mainGlobals) = true) {x : Str} {v : Option Value} (hf : nsFind (entsAt K mainGlobals) x = v) : mg x = v:=by
 obtain ⟨o,es,ep,ho,hdat,_,hn⟩:=g
 rw [X _ _ e] at ho
 obtain rfl:=Option.some.inj ho
 have : entsAt K mainGlobals = es:=by unfold entsAt;rw [hdat]
 rw [← hn,← this,hf]
noncomputable def okFn (F : Fn) : Bool:=F.names.all (fun p => decide (F.names.lookup p.1 = some p.2)) && F.params.all (fun x => decide (F.names.lookup x = some .local) || decide (F.names.lookup x = some .cell)) && decide F.params.Nodup &&
 F.names.all (fun p => !decide (p.2 = .free)) && decide (F.names.lookup (Str.ofString "__classdict__") = none) && decide (F.names.lookup (Str.ofString "__debug__") = none)
theorem len_succ {α : Type} {l : List α} {n : Nat} (e : l.length = n + 1) : ∃ x t,l = x :: t ∧ t.length = n:=by
 cases l with
 | nil => cases e
 | cons x t => exact ⟨x,t,rfl,Nat.succ.inj e⟩
noncomputable abbrev BindIs (K : Frag) (a : Addr) (F : Fn) (vals : List Value) : Prop:=∀ S,peek K S (bindArgs (funcAt K a) ⟨vals,[]⟩) = some (F.params.zip vals)
theorem bind1 {K : Frag} {a : Addr} {F : Fn} (h : F.params.length = 1) (k : ∀ x,BindIs K a F [x]) (vals : List Value) (e : vals.length = F.params.length) : BindIs K a F vals:=by
 rw [h] at e
 obtain ⟨x,rfl⟩:=List.length_eq_one_iff.mp e
 exact k x
theorem bind2 {K : Frag} {a : Addr} {F : Fn} (h : F.params.length = 2) (k : ∀ x y,BindIs K a F [x,y]) (vals : List Value) (e : vals.length = F.params.length) : BindIs K a F vals:=by
 rw [h] at e
 obtain ⟨x,t,rfl,e2⟩:=len_succ e
 obtain ⟨y,rfl⟩:=List.length_eq_one_iff.mp e2
 exact k x y
theorem bind3 {K : Frag} {a : Addr} {F : Fn} (h : F.params.length = 3) (k : ∀ x y z,BindIs K a F [x,y,z]) (vals : List Value) (e : vals.length = F.params.length) : BindIs K a F vals:=by
 rw [h] at e
 obtain ⟨x,t,rfl,e2⟩:=len_succ e
 obtain ⟨y,t2,rfl,e3⟩:=len_succ e2
 obtain ⟨z,rfl⟩:=List.length_eq_one_iff.mp e3
 exact k x y z
theorem bind4 {K : Frag} {a : Addr} {F : Fn} (h : F.params.length = 4) (k : ∀ x y z u,BindIs K a F [x,y,z,u]) (vals : List Value) (e : vals.length = F.params.length) : BindIs K a F vals:=by
 rw [h] at e
 obtain ⟨x,t,rfl,e2⟩:=len_succ e
 obtain ⟨y,t2,rfl,e3⟩:=len_succ e2
 obtain ⟨z,t3,rfl,e4⟩:=len_succ e3
 obtain ⟨u,rfl⟩:=List.length_eq_one_iff.mp e4
 exact k x y z u
theorem fnAt_K {K : Frag} {hb : Heap} {mg : Str → Option Value} {f : Str} {a : Addr} {F : Fn} (X : K.In hb) (hK : K.all (fun p => !decide (p.2.cls = .type "frame")) = true) (hmg : mg f = some (.ref a)) (e : K.lookup a = some (objAt K a)) (hc : (objAt K a).cls = .type "function") (hd : (objAt K a).data = .func (funcAt K a))
  (hbody : (funcAt K a).body = .stmts F.body) (hn : (funcAt K a).scope.names = F.names) (hk : (funcAt K a).scope.kind = .function) (hg : (funcAt K a).scope.isGenerator = false) (hco : (funcAt K a).scope.isCoroutine = false) (hcl : (funcAt K a).closure = []) (hgl : (funcAt K a).globals = mainGlobals) (hbl : (funcAt K a).builtins = builtinsNs)
  (hcode : ∃ c t,(funcAt K a).code = .ref c ∧ K.lookup c = some (objAt K c) ∧ (objAt K c).data = .fields (fieldsAt K (.ref c)) ∧ (fieldsAt K (.ref c))[1]? = some (.str (funcAt K a).qualname t))
  (hbind : ∀ vals : List Value,vals.length = F.params.length → BindIs K a F vals) (hok : okFn F = true) : FnAt hb mg f F:=by
 simp only [okFn,Bool.and_eq_true,List.all_eq_true,decide_eq_true_eq,Bool.or_eq_true,Bool.not_eq_true',decide_eq_false_iff_not] at hok
 obtain ⟨⟨⟨⟨⟨o1,o2⟩,o3⟩,o4⟩,o5⟩,o6⟩:=hok
 obtain ⟨c,t,c1,c2,c3,c4⟩:=hcode
 exact ⟨⟨a,_,_,hmg,X _ _ e,by rw [hc];simp,hd,hbody,hn,hk,hg,hco,hcl,hgl,hbl,⟨c,_,_,t,c1,X _ _ c2,c3,c4⟩,
  fun vals hl prog w A Q E s kb hq => fun Γ p hΓ => wp_of_peek (kIn_keep X kb hK) hq _ (hbind vals hl _)⟩,fun x k hm => o1 (x,k) hm,o2,o3,fun x hx => o4 _ (lookupM hx) rfl,o5,o6⟩
theorem KA_noframe (P : Params) : (KA P).all (fun p => !decide (p.2.cls = .type "frame")) = true:=by kernel_rfl
section
variable {P : Params} {hb : Heap} {mg : Str → Option Value}
theorem KA_mg (X : (KA P).In hb) (g : hb.Ns mainGlobals mg) {x : Str} {v : Option Value} (hf : nsFind (entsAt (KA P) mainGlobals) x = v) : mg x = v:=mg_of X g (by kernel_rfl) (by kernel_rfl) hf
theorem reduce_at (X : (KA P).In hb) (g : hb.Ns mainGlobals mg) : FnAt hb mg (Str.ofString "reduce") (fnAt PP none 2):=by
 exact fnAt_K (a:=23) X (KA_noframe P) (KA_mg X g (by kernel_rfl)) (by kernel_rfl) (by kernel_rfl) (by kernel_rfl) (by kernel_rfl) (by kernel_rfl) (by kernel_rfl) (by kernel_rfl) (by kernel_rfl) (by kernel_rfl) (by kernel_rfl) (by kernel_rfl) ⟨22,191,by kernel_rfl,by kernel_rfl,by kernel_rfl,by kernel_rfl⟩ (bind3 (by kernel_rfl) (fun a b c S => by kernel_rfl)) (by decide +kernel)
theorem c3_at (X : (KA P).In hb) (g : hb.Ns mainGlobals mg) : FnAt hb mg (Str.ofString "_c3_merge") (fnAt PP (some (Str.ofString "result")) 3):=by
 exact fnAt_K (a:=28) X (KA_noframe P) (KA_mg X g (by kernel_rfl)) (by kernel_rfl) (by kernel_rfl) (by kernel_rfl) (by kernel_rfl) (by kernel_rfl) (by kernel_rfl) (by kernel_rfl) (by kernel_rfl) (by kernel_rfl) (by kernel_rfl) (by kernel_rfl) ⟨27,203,by kernel_rfl,by kernel_rfl,by kernel_rfl,by kernel_rfl⟩ (bind1 (by kernel_rfl) (fun a S => by kernel_rfl)) (by decide +kernel)
theorem parse229_at (X : (KA P).In hb) (g : hb.Ns mainGlobals mg) : FnAt hb mg (Str.ofString "parse229") (fnAt PP none 8):=by
 exact fnAt_K (a:=72) X (KA_noframe P) (KA_mg X g (by kernel_rfl)) (by kernel_rfl) (by kernel_rfl) (by kernel_rfl) (by kernel_rfl) (by kernel_rfl) (by kernel_rfl) (by kernel_rfl) (by kernel_rfl) (by kernel_rfl) (by kernel_rfl) (by kernel_rfl) ⟨71,263,by kernel_rfl,by kernel_rfl,by kernel_rfl,by kernel_rfl⟩ (bind2 (by kernel_rfl) (fun a b S => by kernel_rfl)) (by decide +kernel)
theorem parse257_at (X : (KA P).In hb) (g : hb.Ns mainGlobals mg) : FnAt hb mg (Str.ofString "parse257") (fnAt PP none 9):=by
 exact fnAt_K (a:=79) X (KA_noframe P) (KA_mg X g (by kernel_rfl)) (by kernel_rfl) (by kernel_rfl) (by kernel_rfl) (by kernel_rfl) (by kernel_rfl) (by kernel_rfl) (by kernel_rfl) (by kernel_rfl) (by kernel_rfl) (by kernel_rfl) (by kernel_rfl) ⟨78,276,by kernel_rfl,by kernel_rfl,by kernel_rfl,by kernel_rfl⟩ (bind1 (by kernel_rfl) (fun a S => by kernel_rfl)) (by decide +kernel)
theorem ifmt_at (X : (KA P).In hb) (g : hb.Ns mainGlobals mg) : FnAt hb mg (Str.ofString "S_IFMT") (fnAt PP none 11):=by
 exact fnAt_K (a:=86) X (KA_noframe P) (KA_mg X g (by kernel_rfl)) (by kernel_rfl) (by kernel_rfl) (by kernel_rfl) (by kernel_rfl) (by kernel_rfl) (by kernel_rfl) (by kernel_rfl) (by kernel_rfl) (by kernel_rfl) (by kernel_rfl) (by kernel_rfl) ⟨85,289,by kernel_rfl,by kernel_rfl,by kernel_rfl,by kernel_rfl⟩ (bind1 (by kernel_rfl) (fun a S => by kernel_rfl)) (by decide +kernel)
theorem filemode_at (X : (KA P).In hb) (g : hb.Ns mainGlobals mg) : FnAt hb mg (Str.ofString "filemode") (fnAt PP (some (Str.ofString "perm")) 32):=by
 exact fnAt_K (a:=126) X (KA_noframe P) (KA_mg X g (by kernel_rfl)) (by kernel_rfl) (by kernel_rfl) (by kernel_rfl) (by kernel_rfl) (by kernel_rfl) (by kernel_rfl) (by kernel_rfl) (by kernel_rfl) (by kernel_rfl) (by kernel_rfl) (by kernel_rfl) ⟨125,360,by kernel_rfl,by kernel_rfl,by kernel_rfl,by kernel_rfl⟩ (bind1 (by kernel_rfl) (fun a S => by kernel_rfl)) (by decide +kernel)
theorem said_at (X : (KA P).In hb) (g : hb.Ns mainGlobals mg) : FnAt hb mg (Str.ofString "_law_said") (fnAt PP none 34):=by
 exact fnAt_K (a:=133) X (KA_noframe P) (KA_mg X g (by kernel_rfl)) (by kernel_rfl) (by kernel_rfl) (by kernel_rfl) (by kernel_rfl) (by kernel_rfl) (by kernel_rfl) (by kernel_rfl) (by kernel_rfl) (by kernel_rfl) (by kernel_rfl) (by kernel_rfl) ⟨132,374,by kernel_rfl,by kernel_rfl,by kernel_rfl,by kernel_rfl⟩ (bind2 (by kernel_rfl) (fun a b S => by kernel_rfl)) (by decide +kernel)
theorem talk_at (X : (KA P).In hb) (g : hb.Ns mainGlobals mg) : FnAt hb mg (Str.ofString "_law_talk") (fnAt PP (some (Str.ofString "talk")) 35):=by
 exact fnAt_K (a:=138) X (KA_noframe P) (KA_mg X g (by kernel_rfl)) (by kernel_rfl) (by kernel_rfl) (by kernel_rfl) (by kernel_rfl) (by kernel_rfl) (by kernel_rfl) (by kernel_rfl) (by kernel_rfl) (by kernel_rfl) (by kernel_rfl) (by kernel_rfl) ⟨137,382,by kernel_rfl,by kernel_rfl,by kernel_rfl,by kernel_rfl⟩ (bind4 (by kernel_rfl) (fun a b c d S => by kernel_rfl)) (by decide +kernel)
theorem heard_at (X : (KA P).In hb) (g : hb.Ns mainGlobals mg) : FnAt hb mg (Str.ofString "_law_heard") (fnAt PP none 36):=by
 exact fnAt_K (a:=145) X (KA_noframe P) (KA_mg X g (by kernel_rfl)) (by kernel_rfl) (by kernel_rfl) (by kernel_rfl) (by kernel_rfl) (by kernel_rfl) (by kernel_rfl) (by kernel_rfl) (by kernel_rfl) (by kernel_rfl) (by kernel_rfl) (by kernel_rfl) ⟨144,388,by kernel_rfl,by kernel_rfl,by kernel_rfl,by kernel_rfl⟩ (bind2 (by kernel_rfl) (fun a b S => by kernel_rfl)) (by decide +kernel)
theorem listing_at (X : (KA P).In hb) (g : hb.Ns mainGlobals mg) : FnAt hb mg (Str.ofString "_law_listing") (fnAt PP none 37):=by
 exact fnAt_K (a:=152) X (KA_noframe P) (KA_mg X g (by kernel_rfl)) (by kernel_rfl) (by kernel_rfl) (by kernel_rfl) (by kernel_rfl) (by kernel_rfl) (by kernel_rfl) (by kernel_rfl) (by kernel_rfl) (by kernel_rfl) (by kernel_rfl) (by kernel_rfl) ⟨151,402,by kernel_rfl,by kernel_rfl,by kernel_rfl,by kernel_rfl⟩ (bind1 (by kernel_rfl) (fun a S => by kernel_rfl)) (by decide +kernel)
theorem odds_at (X : (KA P).In hb) (g : hb.Ns mainGlobals mg) : FnAt hb mg (Str.ofString "_law_odds") (fnAt PP none 38):=by
 exact fnAt_K (a:=159) X (KA_noframe P) (KA_mg X g (by kernel_rfl)) (by kernel_rfl) (by kernel_rfl) (by kernel_rfl) (by kernel_rfl) (by kernel_rfl) (by kernel_rfl) (by kernel_rfl) (by kernel_rfl) (by kernel_rfl) (by kernel_rfl) (by kernel_rfl) ⟨158,412,by kernel_rfl,by kernel_rfl,by kernel_rfl,by kernel_rfl⟩ (bind2 (by kernel_rfl) (fun a b S => by kernel_rfl)) (by decide +kernel)
theorem clash_at (X : (KA P).In hb) (g : hb.Ns mainGlobals mg) : FnAt hb mg (Str.ofString "_law_clash") (fnAt PP none 39):=by
 exact fnAt_K (a:=164) X (KA_noframe P) (KA_mg X g (by kernel_rfl)) (by kernel_rfl) (by kernel_rfl) (by kernel_rfl) (by kernel_rfl) (by kernel_rfl) (by kernel_rfl) (by kernel_rfl) (by kernel_rfl) (by kernel_rfl) (by kernel_rfl) (by kernel_rfl) ⟨163,421,by kernel_rfl,by kernel_rfl,by kernel_rfl,by kernel_rfl⟩ (bind2 (by kernel_rfl) (fun a b S => by kernel_rfl)) (by decide +kernel)
theorem tried_at (X : (KA P).In hb) (g : hb.Ns mainGlobals mg) : FnAt hb mg (Str.ofString "_law_tried") (fnAt PP none 40):=by
 exact fnAt_K (a:=169) X (KA_noframe P) (KA_mg X g (by kernel_rfl)) (by kernel_rfl) (by kernel_rfl) (by kernel_rfl) (by kernel_rfl) (by kernel_rfl) (by kernel_rfl) (by kernel_rfl) (by kernel_rfl) (by kernel_rfl) (by kernel_rfl) (by kernel_rfl) ⟨168,427,by kernel_rfl,by kernel_rfl,by kernel_rfl,by kernel_rfl⟩ (bind2 (by kernel_rfl) (fun a b S => by kernel_rfl)) (by decide +kernel)
theorem partings_at (X : (KA P).In hb) (g : hb.Ns mainGlobals mg) : FnAt hb mg (Str.ofString "_law_partings") (fnAt PP none 41):=by
 exact fnAt_K (a:=174) X (KA_noframe P) (KA_mg X g (by kernel_rfl)) (by kernel_rfl) (by kernel_rfl) (by kernel_rfl) (by kernel_rfl) (by kernel_rfl) (by kernel_rfl) (by kernel_rfl) (by kernel_rfl) (by kernel_rfl) (by kernel_rfl) (by kernel_rfl) ⟨173,433,by kernel_rfl,by kernel_rfl,by kernel_rfl,by kernel_rfl⟩ (bind1 (by kernel_rfl) (fun a S => by kernel_rfl)) (by decide +kernel)
theorem law_at (X : (KA P).In hb) (g : hb.Ns mainGlobals mg) : FnAt hb mg (Str.ofString "law") (fnAt PP none 42):=by
 exact fnAt_K (a:=179) X (KA_noframe P) (KA_mg X g (by kernel_rfl)) (by kernel_rfl) (by kernel_rfl) (by kernel_rfl) (by kernel_rfl) (by kernel_rfl) (by kernel_rfl) (by kernel_rfl) (by kernel_rfl) (by kernel_rfl) (by kernel_rfl) (by kernel_rfl) ⟨178,439,by kernel_rfl,by kernel_rfl,by kernel_rfl,by kernel_rfl⟩ (bind1 (by kernel_rfl) (fun a S => by kernel_rfl)) (by decide +kernel)
end
end
section
variable [bs : Base]
section
variable {prog : Program} {w : World} {A : Around} {E : Value → Shared → Prop} {s : Shared}
noncomputable def InstOf (h : Heap) (e C : Addr) : Prop:=∃ oe,h.get? e = some oe ∧ oe.cls = .ref C
theorem InstOf.looks {M : Model} {h : Heap} {e C : Addr} (x : InstOf h e C) : Looks M h (typeOf (.ref e)) (.ref C):=by
 obtain ⟨oe,ho,hc⟩:=x
 rw [← hc]
 exact (Looks.ld ho).andThen .now
theorem bexcArgs_own {M : Model} {e t0 : Addr} {items : List Value} {Q : Value × List Value → Shared → Prop} (x : ∃ oe vs,s.heap.get? e = some oe ∧ oe.data = .fields vs ∧ vs[0]? = some (.ref t0)) (ht : PT s.heap t0 items) (hq : Q (.ref t0,items) s) :
  wpAny M A (Builtin.BaseException.bexcArgs (.ref e)) Q E s:=by
 obtain ⟨o,vs,ho,hd,h0⟩:=x
 obtain ⟨k,hto⟩:=ht
 unfold Builtin.BaseException.bexcArgs
 refine wpAny_bind (wpAny_field ho hd h0 (wpAny_bind (wpAny_seqItems hto rfl ?_)))
 have : items.toArray.toList = items:=by simp
 show wpAny M A (pure (Value.ref t0,items.toArray.toList)) Q E s
 rw [this];exact wpAny_pure hq
theorem bexcStr_own {e t0 : Addr} {m : Str} {tk : Tok} {Q : PySem.Fin → Shared → Prop} (x : ∃ oe vs,s.heap.get? e = some oe ∧ oe.data = .fields vs ∧ vs[0]? = some (.ref t0)) (ht : PT s.heap t0 [.str m tk]) (hq : Q (.done (.ret (.str m tk))) s) :
  wpAny (model prog w) A (Builtin.«BaseException.__str__» ⟨[.ref e],[]⟩) Q E s:=by
 unfold Builtin.«BaseException.__str__»
 repeat (first | with_reducible refine bexcArgs_own x ht ?_ | wp_step)
 exact hq
theorem isInst_own {M : Model} {K : Frag} (X : K.In s.heap) {C e : Addr} (x : InstOf s.heap e C) {b : Value} {r : Bool} (hm : mroIn K C b = some r) {Q : Bool → Shared → Prop} (h : Q r s) : wpAny M A (isInstance (.ref e) b) Q E s:=by
 unfold isInstance
 exact wpAny_bind (x.looks.here ((looks_mroIn X hm).here h))
theorem bexcCheck_own {M : Model} {K : Frag} (X : K.In s.heap) {C e : Addr} (x : InstOf s.heap e C) (hm : mroIn K C (.type "BaseException") = some true) {Q : Unit → Shared → Prop} (h : Q () s) : wpAny M A (checkBuiltinCall "BaseException.__str__" ⟨[.ref e],[]⟩) Q E s:=by
 have hsplit : splitId "BaseException.__str__" = some ("BaseException","__str__"):=by kernel_rfl
 have hk : builtinKind "BaseException.__str__" = some .slot:=by kernel_rfl
 simp only [checkBuiltinCall,hk,hsplit]
 refine wpAny_bind (isInst_own X x hm ?_)
 simp only [Bool.not_true,Bool.false_eq_true,if_false]
 have ha:=PySem.F.args_bexc_str (.ref e)
 cases hsig : Manifest.signature? "BaseException.__str__" with
 | none => exact wpAny_pure h
 | some sig =>
  simp only [argsOk,hsig] at ha
  have h2 : Bind.checkArgs "BaseException.__str__" sig ⟨[.ref e],[]⟩ = pure ():=ha
  show wpAny M A (Bind.checkArgs "BaseException.__str__" sig ⟨[.ref e],[]⟩) Q E s
  rw [h2];exact wpAny_pure h
theorem str_own {K : Frag} (X : K.In s.heap) {C : Addr} (hf : findIn K (.ref C) (Str.ofString "__str__") = some (some (.builtin "BaseException.__str__"))) (hm : mroIn K C (.type "BaseException") = some true) {e t0 : Addr} {m : Str} {tk : Tok} {Q : Value → Shared → Prop} (hu : A.units + 10 < cLine)
  (x : ∃ oe vs,s.heap.get? e = some oe ∧ oe.cls = .ref C ∧ oe.data = .fields vs ∧ vs[0]? = some (.ref t0)) (ht : PT s.heap t0 [.str m tk]) (h : Q (.str m tk) s) : wpAny (model prog w) A (call (.type "str") [.ref e]) Q E s:=by
 refine callType_new F.called_str (by decide) (F.typeCall_str_1 _) (F.newCall_str_1 _) (fun obj => F.args_object_init_2 obj _) F.entry_str_new
  (meets_str_new (S:=fun A' R s' => A'.units + 5 < cLine ∧ s'.heap = s.heap ∧ R (.ok (.ret (.str m tk))) s') fun ζ ζ A' R s' hq => ?_)
  ⟨(show A.units + 1 + 5 < cLine by omega),rfl,typeIs_str _ _ _,h⟩
 obtain ⟨h1,h2,h3⟩:=hq
 have X' : K.In s'.heap:=h2 ▸ X
 have x':=h2 ▸ x
 have ht':=h2 ▸ ht
 have io : InstOf s'.heap e C:=let ⟨oe,_,a,b,_⟩:=x';⟨oe,a,b⟩
 have fl : ∃ oe vs,s'.heap.get? e = some oe ∧ oe.data = .fields vs ∧ vs[0]? = some (.ref t0):=let ⟨oe,vs,a,_,b,c⟩:=x';⟨oe,vs,a,b,c⟩
 have FX:=PySem.F.excStr_RuntimeError
 unfold Builtin.Str.strOf
 rw [show Builtin.Str.isExactStr (.ref e) = false from rfl]
 simp only [Bool.false_eq_true,if_false]
 refine wpAny_bind (m:=cRoomFor _ _) (wpAny_cRoomFor (by show A'.units + 1 < _;omega) ?_)
 refine wpAny_bind (m:=callSpecial? (.ref e) (Str.ofString "__str__")) ?_
 unfold callSpecial?
 refine wpAny_bind (m:=specialOf _ _) ?_
 unfold specialOf
 refine wpAny_bind (io.looks.here ((looks_findIn X' hf).here ?_))
 simp only [FX.str.bind]
 refine wpAny_holding (wpAny_bind (wpAny_pure (wpAny_bind ?_)))
 refine wpAny_call (codeAny_call_builtin FX.str.plain PySem.F.entry_bexc_str (bexcCheck_own X' io hm (bexcStr_own fl ht' ?_)))
 exact wpAny_pure (wpAny_pure h3)
end
end
section
variable [bs : Base]
noncomputable def optAll (f : Value → Option PyData) : List Value → Option (List PyData)
 | [] => some []
 | v :: vs => (f v).bind fun d => (optAll f vs).bind fun ds => some (d :: ds)
noncomputable def readK (K : Frag) : Nat → Value → Option PyData
 | 0,_ => none
 | n + 1,v => match v with
  | .none => some .none
  | .bool b => some (.bool b)
  | .int i _ => some (.int i)
  | .str x _ => some (.str x)
  | .ref a => (match K.lookup a with
   | some o => if o.cls = .type "tuple" ∧ o.dict.isNone = true ∧ o.slots.size = 0 then (match o.data with
    | .seq vs _ => (optAll (readK K n) vs.toList).map .tuple
    | _ => none) else none
   | none => none)
  | _ => none
set_option tactic.hygienic true in
theorem readK_rep {prog : Program} {w : World} {K : Frag} {h : Heap} (X : K.In h) : ∀ n v d,readK K n v = some d → Rep prog w (fun ζ => False) h v d:=by
 intro n
 induction n with
 | zero => intro v d e;cases e
 | succ n ih =>
  intro v d e
  have all : ∀ (vs : List Value) ds,optAll (readK K n) vs = some ds → RepAll prog w (fun ζ => False) h vs ds:=by
   intro vs
   induction vs with
   | nil => intro ds e;obtain rfl:=Option.some.inj e;exact .nil
   | cons v vs ihv =>
    intro ds e
    obtain ⟨d,h1,e⟩:=bMp e
    obtain ⟨ds',h2,e⟩:=bMp e
    obtain rfl:=Option.some.inj e
    exact .cons (ih v d h1) (ihv ds' h2)
  unfold readK at e
  split at e
  ·obtain rfl:=Option.some.inj e;exact .none
  ·obtain rfl:=Option.some.inj e;exact .bool _
  ·obtain rfl:=Option.some.inj e;exact .int _ _
  ·obtain rfl:=Option.some.inj e;exact .str _ _
  ·split at e
   ·rename_i o hl
    split at e
    ·rename_i hc
     obtain ⟨c1,c2,c3⟩:=hc
     split at e
     ·rename_i vs k hd
      obtain ⟨ds,h1,rfl⟩:=oMp e
      refine .tuple (fun z => z) ⟨k,?_⟩ (all _ _ h1)
      have:=X _ _ hl
      obtain ⟨oc,od,odt,os⟩:=o
      simp only at c1 c2 c3 hd
      have h2 : od = none:=by cases od <;> simp_all
      have h3 : os = #[]:=Array.eq_empty_of_size_eq_zero c3
      subst c1 h2 hd h3
      simpa using this
     ·cases e
    ·cases e
   ·cases e
  ·cases e
noncomputable def bitC (n : Int) (c : String) : PyData:=.tuple [.int n,.str (Str.ofString c)]
noncomputable def modeT : PyData:=.tuple [.tuple [bitC 40960 "l",bitC 49152 "s",bitC 32768 "-",bitC 24576 "b",bitC 16384 "d",bitC 8192 "c",bitC 4096 "p"],.tuple [bitC 256 "r"],.tuple [bitC 128 "w"],.tuple [bitC 2112 "s",bitC 2048 "S",bitC 64 "x"],
 .tuple [bitC 32 "r"],.tuple [bitC 16 "w"],.tuple [bitC 1032 "s",bitC 1024 "S",bitC 8 "x"],.tuple [bitC 4 "r"],.tuple [bitC 2 "w"],.tuple [bitC 513 "t",bitC 512 "T",bitC 1 "x"]]
noncomputable def TA : Tab:=⟨[(Str.ofString "parse229",fnAt PP none 8),(Str.ofString "parse257",fnAt PP none 9),(Str.ofString "S_IFMT",fnAt PP none 11),(Str.ofString "filemode",fnAt PP (some (Str.ofString "perm")) 32),
 (Str.ofString "_law_said",fnAt PP none 34),(Str.ofString "_law_talk",fnAt PP (some (Str.ofString "talk")) 35),(Str.ofString "_law_listing",fnAt PP none 37),(Str.ofString "_law_odds",fnAt PP none 38),(Str.ofString "_law_clash",fnAt PP none 39),(Str.ofString "_law_partings",fnAt PP none 41)],
 [],[(Str.ofString "_filemode_table",modeT)],[Str.ofString "error_reply",Str.ofString "error_proto"]⟩
section
variable {prog : Program} {w : World} {P : Params} {hb : Heap} {mg mb : Str → Option Value}
theorem TA_table (P : Params) : readK (KA P) 6 (.ref 119) = some modeT:=by kernel_rfl
noncomputable def AllP {α : Type} (p : α → Prop) : List α → Prop
 | [] => True
 | a :: l => p a ∧ AllP p l
theorem allP_of {α : Type} {p : α → Prop} {l : List α} (h : AllP p l) {a : α} (m : a ∈ l) : p a:=by
 induction l with
 | nil => cases m
 | cons b l ih =>
  rcases cMp m with e | m
  ·exact e ▸ h.1
  ·exact ih h.2 m
theorem blt_check (P : Params) : (blts.all fun p => (nsFind (entsAt (KA P) mainGlobals) p.1).isNone && decide (bootBuiltins p.1 = some (bltOf p.2)) && !decide (p.1 = Str.ofString "__name__")) = true:=by kernel_rfl
theorem GlA (X : (KA P).In hb) (g : hb.Ns mainGlobals mg) (b : hb.Ns builtinsNs mb) (lim : hb.NoLimit) (sm : ∃ o,hb.get? sysModules = some o) (bs : ∀ x : Str,x ≠ "__name__" → mb x = bootBuiltins x) : Gl prog w TA hb mg mb where
 g:=g
 b:=b
 lim:=lim
 sm:=sm
 blt:=fun f id h => by
  have c:=List.all_eq_true.mp (blt_check P) (f,id) (lookupM h)
  rw [Bool.and_eq_true,Bool.and_eq_true,decide_eq_true_eq,Bool.not_eq_true',decide_eq_false_iff_not] at c
  exact ⟨KA_mg X g (Option.isNone_iff_eq_none.mp c.1.1),(bs f fun e => c.2 e).trans c.1.2⟩
 glob:=fun x d h => (show (x,d) ∈ TA.glob → _ from fun m => by
  cases sMp m
  exact ⟨.ref 119,KA_mg X g (by kernel_rfl),readK_rep X 6 _ _ (TA_table P)⟩) (lookupM h)
 fns:=fun f fd h => allP_of (l:=TA.fns) (a:=(f,fd)) (p:=fun p : Str × Fn => FnAt hb mg p.1 p.2) ⟨parse229_at X g,parse257_at X g,ifmt_at X g,filemode_at X g,said_at X g,talk_at X g,listing_at X g,odds_at X g,clash_at X g,partings_at X g,trivial⟩ (lookupM h)
theorem mat_facts (P : Params) : exmOne (KA P) (.ref 51) (.ref 51) = some true ∧ exmOne (KA P) (.ref 51) (.ref 63) = some false ∧ exmOne (KA P) (.ref 63) (.ref 51) = some false ∧ exmOne (KA P) (.ref 63) (.ref 63) = some true :=
 ⟨by kernel_rfl,by kernel_rfl,by kernel_rfl,by kernel_rfl⟩
theorem XsA (X : (KA P).In hb) (g : hb.Ns mainGlobals mg) : Xs prog w hb mg 51 63 where
 gr:=KA_mg X g (by kernel_rfl)
 gp:=KA_mg X g (by kernel_rfl)
 str:=fun C hC A E s e t0 m tk Q hu kb x pt h => by
  have X':=kIn_keep X kb (KA_noframe P)
  rcases hC with rfl | rfl
  ·exact str_own X' (by kernel_rfl) (by kernel_rfl) hu x pt h
  ·exact str_own X' (by kernel_rfl) (by kernel_rfl) hu x pt h
 mat:=fun C C' hC hC' A E s e Q kb x h => by
  have X':=kIn_keep X kb (KA_noframe P)
  have m:=mat_facts P
  rcases hC with rfl | rfl <;> rcases hC' with rfl | rfl
  ·exact (exm_one X' (InstOf.looks x) m.1).here h
  ·exact (exm_one X' (InstOf.looks x) m.2.1).here h
  ·exact (exm_one X' (InstOf.looks x) m.2.2.1).here h
  ·exact (exm_one X' (InstOf.looks x) m.2.2.2).here h
end
end
section
variable [bs : Base]
section
variable {w : World} {hb : Heap} {mg mb : Str → Option Value}
noncomputable abbrev qA:=viewA
theorem specA_reply : specOf qA (Str.ofString "error_reply") = some ("Exception.__new__",[.type "Exception",.type "BaseException",.type "object"]):=by kernel_rfl
theorem specA_proto : specOf qA (Str.ofString "error_proto") = some ("Exception.__new__",[.type "Exception",.type "BaseException",.type "object"]):=by kernel_rfl
noncomputable def heardF : Fn:=fnAt PP none 36
noncomputable def reduceF : Fn:=fnAt PP none 2
structure GroundA (prog : Program) (w : World) (hb : Heap) (mg mb : Str → Option Value) : Prop where
 AO : ∀ k,AllOk prog w TA hb mg mb mg k (evs TA k)
 XE : ExcsOk TA hb mg mg
 X : Xs prog w hb mg 51 63
 hcr : mg (Str.ofString "error_reply") = some (.ref 51)
 hcp : mg (Str.ofString "error_proto") = some (.ref 63)
 FH : FnAt hb mg (Str.ofString "_law_heard") heardF
 FR : FnAt hb mg (Str.ofString "reduce") reduceF
 FC : FnAt hb mg (Str.ofString "_c3_merge") c3F
 FT : FnAt hb mg (Str.ofString "_law_tried") (fnAt PP none 40)
 FL : FnAt hb mg (Str.ofString "law") (fnAt PP none 42)
 hma : mg (Str.ofString "_initial_missing") = some (.ref 15)
 hmo : ∃ mo,hb.get? 15 = some mo ∧ mo.cls ≠ .type "tuple" ∧ mo.cls ≠ .type "frame"
 hmoc : ∀ mo,hb.get? 15 = some mo → mo.cls = .type "object"
 hfa : mg (Str.ofString "_law_heard") = some (.ref 145)
 hmg : mg (Str.ofString "RuntimeError") = none
 hmb : mb (Str.ofString "RuntimeError") = some (.type "RuntimeError")
 g : hb.Ns mainGlobals mg
 bm : ∃ bm ob,mg "__builtins__" = some (.ref bm) ∧ bm ≠ builtinsNs ∧ hb.get? bm = some ob ∧ ob.cls = .type "module" ∧ ob.dict = some builtinsNs ∧ ob.data = .plain
 law : ∃ o fd,mg (Str.ofString "law") = some (.ref 179) ∧ hb.get? 179 = some o ∧ o.data = .func fd ∧ fd.code = .ref 178
structure Tp (hb : Heap) (mg mb : Str → Option Value) : Prop where
 g : hb.Ns mainGlobals mg
 b : hb.Ns builtinsNs mb
 lim : hb.NoLimit
 sm : ∃ m,hb.Ns sysModules m
 blt : ∀ x : Str,x ≠ "__name__" → mb x = bootBuiltins x
 xr : ExcAt hb mg (Str.ofString "error_reply") 51
 xp : ExcAt hb mg (Str.ofString "error_proto") 63
 bm : ∃ bm ob,mg "__builtins__" = some (.ref bm) ∧ bm ≠ builtinsNs ∧ hb.get? bm = some ob ∧ ob.cls = .type "module" ∧ ob.dict = some builtinsNs ∧ ob.data = .plain
theorem tp_of {P : Params} {loose : List Str} {mean : ExcName → Option Value} (X : (KA P).In hb) (T : Top qA loose mean mg mb hb) : Tp hb mg mb:=by
 have one : ∀ (c : Str) (C : Addr),mg c = some (.ref C) → specOf qA c = some ("Exception.__new__",[.type "Exception",.type "BaseException",.type "object"]) → ExcAt hb mg c C:=fun c C hc hs => by
  obtain ⟨C',O,_⟩:=T.ownAt hs
  cases hc.symm.trans O.own.bound
  exact ⟨_,_,"Exception",_,_,"Exception",_,_,O.own,F.excBase_Exception,by kernel_rfl,F.excBase_Exception⟩
 exact ⟨T.g,T.b,T.nolimit,let ⟨m,h,_⟩:=(T.seer (by kernel_rfl)).mods;⟨m,h⟩,T.builtins,one _ 51 (KA_mg X T.g (by kernel_rfl)) specA_reply,one _ 63 (KA_mg X T.g (by kernel_rfl)) specA_proto,T.bmain⟩
noncomputable def Gst (h h' : Heap) : Prop:=∀ b o,h.get? b = some o → o ≠ tabObj #[] → h'.get? b = some o
theorem Gst.ns {h h' : Heap} (k : Gst h h') {a : Addr} {m : Str → Option Value} (x : h.Ns a m) : h'.Ns a m :=
 let ⟨o,es,ep,e,hd,r⟩:=x;⟨o,es,ep,k _ _ e (fun q => by rw [q] at hd;cases hd),hd,r⟩
theorem Gst.tail {h h' : Heap} (k : Gst h h') {bmB tl : List Value} (x : OwnTail h bmB tl) : OwnTail h' bmB tl:=by
 induction x with
 | base => exact .base
 | own e hn hi _ ih => exact .own (k _ _ e fun q => nomatch congrArg Obj.data q) (k.ns hn) hi ih
theorem Gst.exc {h h' : Heap} (k : Gst h h') {c : Str} {C : Addr} (x : ExcAt h mg c C) : ExcAt h' mg c C:=by
 obtain ⟨bm,newId,Bn,inN,bmN,B,nid,initId,⟨bd,bm',N,nm,q,bs,hdct,sn,sub,ab,col,dd,k0,k1,k2,k3,k5,mN,hC,hN,hni,T⟩,r⟩:=x
 exact ⟨bm,newId,Bn,inN,bmN,B,nid,initId,⟨bd,bm',N,nm,q,bs,hdct,sn,sub,ab,col,dd,k0,k1,k2,k3,k5,mN,k _ _ hC (fun q => nomatch congrArg Obj.data q),k.ns hN,hni,k.tail T⟩,r⟩
theorem Gst.tp {h h' : Heap} (k : Gst h h') (T : Tp h mg mb) : Tp h' mg mb :=
 ⟨k.ns T.g,k.ns T.b,let ⟨mc,a,r⟩:=T.lim;⟨mc,k.ns a,r⟩,let ⟨m,h⟩:=T.sm;⟨m,k.ns h⟩,T.blt,k.exc T.xr,k.exc T.xp,let ⟨bm,ob,a1,a2,a3,a4,r⟩:=T.bm;⟨bm,ob,a1,a2,k _ _ a3 (fun q => by rw [q] at a4;cases a4),a4,r⟩⟩
theorem Gst.kin {h h' : Heap} (k : Gst h h') {P : Params} (X : (KA P).In h) : (KA P).In h':=fun a o e => k _ _ (X a o e) fun q => by
 have h2:=List.all_eq_true.mp (show noTabs (KA P) = true by kernel_rfl) (a,o) (mem_of_lookupK e)
 subst q
 exact absurd (show false = true from h2) Bool.false_ne_true
theorem excsA {P : Params} (X : (KA P).In hb) (T : Tp hb mg mb) : ExcsOk TA hb mg mg:=by
 intro c hc
 simp only [TA,List.mem_cons,List.not_mem_nil,or_false] at hc
 rcases hc with rfl | rfl
 ·exact ⟨51,KA_mg X T.g (by kernel_rfl),T.xr⟩
 ·exact ⟨63,KA_mg X T.g (by kernel_rfl),T.xp⟩
theorem groundA {prog : Program} {P : Params} (X : (KA P).In hb) (T : Tp hb mg mb) : GroundA prog w hb mg mb where
 AO:=evs_ok (GlA X T.g T.b T.lim (let ⟨_,o,_,_,h,_⟩:=T.sm;⟨o,h⟩) T.blt) (excsA X T) rfl
 XE:=excsA X T
 X:=XsA X T.g
 hcr:=KA_mg X T.g (by kernel_rfl)
 hcp:=KA_mg X T.g (by kernel_rfl)
 FH:=heard_at X T.g
 FR:=reduce_at X T.g
 FC:=c3_at X T.g
 FT:=tried_at X T.g
 FL:=law_at X T.g
 hma:=KA_mg X T.g (by kernel_rfl)
 hmo:=⟨objAt (KA P) 15,X _ _ (by kernel_rfl),by rw [show (objAt (KA P) 15).cls = .type "object" by kernel_rfl];decide,by rw [show (objAt (KA P) 15).cls = .type "object" by kernel_rfl];decide⟩
 hmoc:=fun mo h => by
  cases (X _ _ (show (KA P).lookup 15 = some (objAt (KA P) 15) by kernel_rfl)).symm.trans h
  kernel_rfl
 hfa:=KA_mg X T.g (by kernel_rfl)
 hmg:=KA_mg X T.g (by kernel_rfl)
 hmb:=(T.blt _ (by rw [ne_eq,ofString_iff];decide)).trans (by kernel_rfl)
 g:=T.g
 bm:=T.bm
 law:=⟨objAt (KA P) 179,funcAt (KA P) 179,KA_mg X T.g (by kernel_rfl),X _ _ (by kernel_rfl),by kernel_rfl,by kernel_rfl⟩
end
end
section
theorem ints_of_has : ∀ (xs : List WData),WShape.hasItems [] xs .int = true → ∃ ns : List Int,xs = ns.map WData.int
 | [],_ => ⟨[],rfl⟩
 | x :: xs,h => by
  obtain ⟨h1,h2⟩:=aMp (show (WShape.has [] x .int && WShape.hasItems [] xs .int) = true from h)
  obtain ⟨ns,rfl⟩:=ints_of_has xs h2
  cases x with
  | int i => exact ⟨i :: ns,rfl⟩
  | _ => exact Bool.noConfusion (show false = true from h1)
theorem holds_and {R : WRecords} {X Y : WTm} {e : WCtx} (h : WTm.value R X e = some (.bool false)) : WTm.holds R (.and X Y) e = false:=by
 show (match (match WTm.value R X e with | some (.bool false) => some (WData.bool false) | some (.bool true) => (match WTm.value R Y e with | some (.bool x) => some (.bool x) | _ => none) | _ => none) with | some (.bool true) => true | _ => false) = false
 rw [h]
theorem preA {args : List WData} (h : Challenge.rw_oy0152_02.row.toRowW.claim.pre args = true) : ∃ ns : List Int,args = [.list (ns.map WData.int)] ∧ ns.length ≤ 63:=by
 obtain ⟨h0,h2⟩:=aMp (show (WShape.hasAll [] args [.list .int] && WTm.holds [] Challenge.rw_oy0152_02.pre { args:=args }) = true from h)
 clear h
 cases args with
 | nil => exact Bool.noConfusion (show false = true from h0)
 | cons x rest =>
  obtain ⟨h3,h4⟩:=aMp (show (WShape.has [] x (.list .int) && WShape.hasAll [] rest []) = true from h0)
  cases rest with
  | cons => exact Bool.noConfusion (show false = true from h4)
  | nil =>
   cases x with
   | list xs =>
    obtain ⟨ns,rfl⟩:=ints_of_has xs ((Bool.or_false _).symm.trans (show (WShape.hasItems [] xs .int || false) = true from h3))
    clear h0 h3 h4
    refine ⟨ns,rfl,Nat.le_of_not_lt fun hlt => ?_⟩
    have e : WTm.value [] (((WTm.lit (WData.int 63)).lt (WTm.arg 0).len).not) { args:=[.list (ns.map WData.int)] } = some (.bool !decide ((63 : Int) < ((ns.map WData.int).length : Int))):=by kernel_rfl
    rw [List.length_map,decide_eq_true (by omega)] at e
    rw [show Challenge.rw_oy0152_02.pre = (((WTm.lit (WData.int 63)).lt (WTm.arg 0).len).not.and (WTm.lit (WData.bool true))) by kernel_rfl,holds_and e] at h2
    exact Bool.noConfusion h2
   | _ => exact Bool.noConfusion (show false = true from h3)
theorem postA {args : List WData} : Challenge.rw_oy0152_02.row.toRowW.claim.post args (.bool true) args = true:=by kernel_rfl
theorem readsInts {R : WRecords} {cl : Str → Option Addr} {h : Heap} {prog : Program} {w : World} : ∀ {ns : List Int} {vs : List Value} {as : List Addr},ReadsAllW R cl h vs (ns.map WData.int) as → RepAll prog w (fun ζ => False) h vs (ns.map PyData.int)
 | [],_,_,r => by cases r;exact .nil
 | n :: ns,_,_,r => by
  cases r with | cons r1 r2 =>
  cases r1
  exact .cons (.int _ _) (readsInts r2)
noncomputable def BodyB : Prop:=∀ (prog : Program) (w : World) [Base] (hb : Heap) (mg mb : Str → Option Value) (A : Around) (s : Shared),GroundA prog w hb mg mb → Rm false hb 200 A → Keep hb s.heap → Stk hb A s.heap → CodeHd s.heap 178 176 → s.heap.get? 176 = some (tabObj #[]) → hb.get? 176 = none →
 ∀ (ns : List Int),ns.length ≤ 63 → ∀ (a : Addr) (us : List Value),s.heap.IsList a us.toArray → RepAll prog w (fun ζ => False) s.heap us (ns.map PyData.int) →
 ∀ (Q : Value → Shared → Prop) (E : Value → Shared → Prop),(∀ h' tk ps,Keep hb h' → h'.get? 176 = some (tabObj ps) → Q (.bool true) { s with heap:=h',toks:=tk }) → ∃ la,mg (Str.ofString "law") = some (.ref la) ∧ wpAny (model prog w) A (call (.ref la) [.ref a]) Q E s
set_option maxRecDepth 10000 in
theorem law2_of (B : BodyB) : Challenge.rw_oy0152_02.Holds:=by
 refine topA fun w s₀ s₁ mg mb G Y a o pm cd doc dV kV ha hd hcode hdf hmg hgens args vals as hpre hlay hreads hwell hsys => ?_
 obtain ⟨ns,rfl,hlen⟩:=preA hpre
 have X : (KA w.params).In s₁.heap:=kIn_of Y
 obtain ⟨d,hr⟩ : ∃ d,(recsOf viewA).find? (fun e => e.name == Str.ofString "law") = some d:=Option.isSome_iff_exists.mp (by kernel_rfl)
 obtain ⟨hC,hP⟩:=tab_of (x:=Str.ofString "law") (c:=178) (P:=176) G.T X hr (by kernel_rfl)
 letI : Base:=⟨mask s₁.heap [176]⟩
 have gs : Gst s₁.heap (mask s₁.heap [176]):=fun b o e n => (mask_other fun q => by
  cases sMp q
  cases hP.symm.trans e
  exact n rfl).trans e
 have GA : GroundA Challenge.pw_oy0152_02 w (mask s₁.heap [176]) mg mb:=groundA (gs.kin X) (gs.tp (tp_of X G.T))
 cases hreads with | cons r1 r2 =>
 cases r2
 cases r1 with | @list l ol us n xs as' h1 h2 h3 h4 =>
 have hl : s₁.heap.IsList l us.toList.toArray:=by
  rw [Array.toArray_toList]
  exact ⟨ol,h1,h2,n,h3⟩
 obtain ⟨la,hla,w'⟩:=B Challenge.pw_oy0152_02 w (mask s₁.heap [176]) mg mb callerA s₁ GA ⟨fun ζ => rfl,.inl rfl,by decide +kernel,by decide +kernel⟩ mask_keep ⟨[],rfl,(fun ζ z => nomatch z),fun ζ e => e⟩ hC hP (mask_in List.mem_cons_self) ns hlen l us.toList hl (readsInts h4)
  (fun v s' => GoodWG Challenge.rw_oy0152_02.row.toRowW.claim (classAt s₀.heap) (ExcName.means s₀.heap) [.list (ns.map WData.int)] s₁ (.ok (.ret v)) s') (fun e s' => GoodWG Challenge.rw_oy0152_02.row.toRowW.claim (classAt s₀.heap) (ExcName.means s₀.heap) [.list (ns.map WData.int)] s₁ (.error e) s')
  (fun h' tk ps k tb => by
   have one : ∀ b o,b ≠ 176 → s₁.heap.get? b = some o → h'.get? b = some o:=fun b o nb e => by
    have e1 : (mask s₁.heap [176]).get? b = some o:=(mask_other fun q => nb (sMp q)).trans e
    obtain ⟨o',e',al⟩:=k b o e1
    rwa [al.old (show Base.h.get? b = some o from e1)] at e'
   refine ⟨.inl ⟨_,.bool true,[],rfl,fun ζ => rfl,.bool true,postA,fun ζ => ⟨.nil,fun ζ z => nomatch z⟩⟩,⟨fun b o e => ?_,fun b o e => ?_⟩,rfl,.of_eq hgens⟩
   ·by_cases hb : b = 176
    ·subst hb
     cases hP.symm.trans e
     exact .inr (.inl ⟨(hC.tab hP).isCodeTable,rfl,#[],ps,rfl,by rw [Array.empty_append];exact tb⟩)
    ·exact .inl (one b o hb e)
   ·by_cases hb : b = 176
    ·exact ⟨_,hb ▸ tb⟩
    ·exact ⟨o,one b o hb e⟩)
 rw [show mg (Str.ofString "law") = some (.ref a) from hmg] at hla
 cases hla
 exact w'
end
section
variable [bs : Base]
structure Acc (Ds : List Addr) (J : (Addr → Prop) → Nat → Value → Heap → Prop) : Prop where
 off : ∀ {O : Addr → Prop} {i : Nat} {v : Value} {h h' : Heap} {B : Addr → Prop},J O i v h → KeepBut B h h' → (∀ b,B b → O b ∧ b ∉ Ds) → J O i v h'
 into : ∀ {O O' : Addr → Prop} {i : Nat} {v : Value} {h : Heap},J O i v h → (∀ b,O' b → O b ∨ h.get? b = none) → J O' i v h
 ds : ∀ {O : Addr → Prop} {i : Nat} {v : Value} {h : Heap},J O i v h → ∀ b ∈ Ds,∃ o,h.get? b = some o ∧ o.cls ≠ .type "frame"
section
variable {prog : Program} {w : World} {hb : Heap} {mg mb : Str → Option Value} {n : Nat} {A : Around} {s : Shared} {env : Env} {E : Value → Shared → Prop}
variable {hF : Heap} {O : Addr → Prop} {Ds : List Addr} {J : (Addr → Prop) → Nat → Value → Heap → Prop}
theorem iter_call (hh : A.handled = none) {a : Addr} {vs : List Value} {xs : List PyData} (na : ¬ O a) (l : PL s.heap a vs) (rs : RepAll prog w O s.heap vs xs) {Q : Value → Shared → Prop}
  (h : ∀ I h' St,Keep s.heap h' → s.heap.get? I = none → (∀ tg,It prog w A tg O h' I (· = I) xs St) → St 0 h' → (∀ i h,St i h → ∀ o,h.get? I = some o → o.cls ≠ .type "frame") → Q (.ref I) { s with heap:=h' }) : wpAny (model prog w) A (call (.builtin "iter") [.ref a]) Q E s:=by
 refine call_builtin_at (b:=Builtin.«iter») (by decide +kernel) (entryFor_of_tree (by kernel_rfl)) (by rfl) (PyProof.Rows.wpAt_of_any ?_)
 have eIt : Builtin.«iter» ⟨[.ref a],[]⟩ = (pyIter (.ref a) >>= fun r => ret r):=by
  unfold Builtin.«iter»
  rw [show someArgs "iter" 1 2 ⟨[.ref a],[]⟩ = pure [.ref a] from rfl]
  rfl
 rw [eIt]
 clear eIt
 refine wpAny_bind (wpAny_pyIter_list l.isList ?_)
 have hne : a ≠ s.heap.objs.size:=by obtain ⟨_,ho⟩:=l;exact Nat.ne_of_lt (Heap.lt_size ho)
 have kp:=Keep.push s.heap { cls:=.type "list_iterator",data:=.fields #[.ref a,.int 0 0] }
 have T : ∀ i (h : Heap),(h.IsListIter s.heap.objs.size a i ∧ h.IsList a vs.toArray) → (∃ o,h.get? s.heap.objs.size = some o ∧ o.cls = .type "list_iterator") ∧ ∃ o,h.get? a = some o ∧ o.cls = .type "list" :=
  fun i h st => ⟨let ⟨o,ho,hc,_⟩:=st.1;⟨o,ho,hc⟩,let ⟨o,ho,hc,_⟩:=st.2;⟨o,ho,hc⟩⟩
 exact wpAny_pure ⟨_,rfl,h _ _ _ kp (fresh_size _) (seq_it na (let ⟨_,ho⟩:=l.keepK kp;⟨_,ho⟩) (Walks.list hh _ a hne vs.toArray) (rs.keep kp) (Heap.get?_push_size _ rfl) rfl T (by decide) (by decide) (by decide +kernel))
  ⟨⟨_,Heap.get?_push_size _ rfl,rfl,rfl⟩,(l.keepK kp).isList⟩ fun i h st o ho => by
   obtain ⟨⟨o1,ho1,hc1⟩,_⟩:=T i h st
   cases ho.symm.trans ho1
   rw [hc1];simp⟩
structure RI (prog : Program) (w : World) (hb hF : Heap) (O : Addr → Prop) (env : Env) (A : Around) (h : Heap) (fa : Addr) (v : Value) : Prop where
 F : Fx prog w hb reduceF.names hF O h env []
 K : Stk hb A h
 vf : VarIs h env reduceF.names (Str.ofString "function") (.ref fa)
 vv : VarIs h env reduceF.names (Str.ofString "value") v
theorem RI.chgJ {B : Addr → Prop} {h h' : Heap} {fa : Addr} {v : Value} (x : RI prog w hb hF O env A h fa v) (k : KeepBut B h h') (hB : ∀ b,B b → O b) (nS : ∀ b,B b → ¬ Sl env b) (hFB : ∀ b,B b → hF.get? b = none) (hc : ∀ b,B b → ∀ o,h.get? b = some o → o.cls ≠ .type "frame") (he : ∀ b,B b → ∃ o,h'.get? b = some o) : RI prog w hb hF O env A h' fa v:=by
 obtain ⟨m,hn⟩:=x.F.ns
 have kp:=Kept.of_offJ (sc:=reduceF.names) hn k nS
 exact ⟨x.F.chgJ hB nS hFB k he,x.K.off x.F.F k kp.lc fun a z => .inr (hc a z),kp.vk _ _ (by simp) x.vf,kp.vk _ _ (by simp) x.vv⟩
theorem RI.drop {h h' : Heap} {fa I : Addr} {v : Value} (x : RI prog w hb hF O env A h fa v) (k : KeepBut (· = I) h h') (nS : ¬ Sl env I) (hO : O I) (hFI : hF.get? I = none) (hc : ∀ o,h.get? I = some o → o.cls ≠ .type "frame") : RI prog w hb hF (Less O I) env A h' fa v:=by
 obtain ⟨m,hn⟩:=x.F.ns
 have kp:=Kept.of_off (sc:=reduceF.names) hn k nS
 exact ⟨x.F.dropI hO nS hFI k,x.K.off x.F.F k kp.lc fun a z => .inr (z ▸ hc),kp.vk _ _ (by simp) x.vf,kp.vk _ _ (by simp) x.vv⟩
theorem RI.stored {h h' : Heap} {fa : Addr} {v : Value} {X : List Str} (x : RI prog w hb hF O env A h fa v) (F' : Fx prog w hb reduceF.names hF O h' env []) (k : KeepBut (OwnS hF O env) h h') (kp : Kept env reduceF.names X h h')
  (h1 : Str.ofString "function" ∉ X) (h2 : Str.ofString "value" ∉ X) : RI prog w hb hF O env A h' fa v :=
 ⟨F',x.K.off x.F.F (k.mono fun b z => z.2) kp.lc fun a z => .inl z,kp.vk _ _ h1 x.vf,kp.vk _ _ h2 x.vv⟩
noncomputable def redF : Stmt:=nth reduceF.body 2
noncomputable def StepOk (prog : Program) (w : World) (hb hF : Heap) (Ds : List Addr) (J : (Addr → Prop) → Nat → Value → Heap → Prop) (all : List PyData) (fa : Addr) : Prop :=
 ∀ (i : Nat) (d : PyData),all[i]? = some d → ∀ (A : Around) (s : Shared) (O : Addr → Prop) (v vx : Value) (Q : Value → Shared → Prop) (E : Value → Shared → Prop),Rm false hb 75 A → Keep hb s.heap → Keep hF s.heap → Stk hb A s.heap → Old O s.heap → (∀ a,O a → hb.get? a = none) → (∀ b ∈ Ds,O b) →
  J O i v s.heap → Rep prog w O s.heap vx d → (∀ h' tk v',KeepBut (fun b => b ∈ Ds) s.heap h' → J O (i + 1) v' h' → Q v' { s with heap:=h',toks:=tk }) → wpAny (model prog w) A (call (.ref fa) [v,vx]) Q E s
set_option maxRecDepth 10000 in
theorem reduce_loop (aJ : Acc Ds J) {fa : Addr} {of : Obj} {fdf : FuncData} (hof : hF.get? fa = some of) (hcf : of.cls ≠ .type "frame") (hdf : of.data = .func fdf) (rm : Rm false hb 75 A) {OI : Addr → Prop} {h₀ : Heap} {I : Addr} {all : List PyData} {St : Nat → Heap → Prop} (step : StepOk prog w hb hF Ds J all fa) (it : It prog w A (forT redF) OI h₀ I (· = I) all St)
  (nS : ¬ Sl env I) (hFI : hF.get? I = none) (gr : Grow OI h₀ (· = I) O) (nfr : ∀ i h,St i h → ∀ o,h.get? I = some o → o.cls ≠ .type "frame") (hDO : ∀ b ∈ Ds,OI b) (hDF : ∀ b ∈ Ds,hF.get? b = none) (hDS : ∀ b ∈ Ds,¬ Sl env b) (hDI : I ∉ Ds) :
  ∀ (n i : Nat) (s : Shared) (v : Value) (R : Result → Shared → Prop),
   i + n = all.length → St i s.heap → KeepBut O h₀ s.heap → RI prog w hb hF O env A s.heap fa v → J O i v s.heap →
   (∀ h' tk v',RI prog w hb hF (Less O I) env A h' fa v' → J (Less O I) all.length v' h' → R (.ok .next) { s with heap:=h',toks:=tk }) →
   codeAny (model prog w) A (.forLoop (forT redF) (.ref I) (forB redF) [] env) R s:=by
 intro n
 induction n with
 | zero =>
  intro i s v R hi st kb x I₁ hR
  cases (show i = all.length from hi)
  refine forLoop_step (it.done s _ _ st fun h' tk k => ?_)
  exact wpAny_pure (hR h' tk v (x.drop k nS (gr.self I rfl) hFI (nfr _ _ st)) (aJ.into (aJ.off I₁ k fun b z => z ▸ ⟨gr.self I rfl,hDI⟩) fun ζ z => .inl z.1))
 | succ n ih =>
  intro i s v R hi st kb x I₁ hR
  have hilt : i < all.length:=by omega
  refine forLoop_step ?_
  refine it.turn i all[i] s _ _ _ _ O gr x.F.F.old kb (List.getElem?_eq_getElem hilt) st fun vx h₂ tk₂ rv st₂ k12 => ?_
  obtain ⟨oI2,hoI2,ntI2⟩:=it.ex _ _ st₂ I rfl
  have x₂:=x.chgJ k12 (fun b z => gr.self b z) (fun b z => z ▸ nS) (fun b z => z ▸ hFI) (fun b z => z ▸ nfr _ _ st) fun b z => z ▸ ⟨_,hoI2⟩
  have I₂:=aJ.off I₁ k12 fun b z => z ▸ ⟨gr.self I rfl,hDI⟩
  rw [show forT redF = forT redF from rfl]
  conv => arg 3;arg 1;whnf
  refine wpAny_assign_Name (x₂.F.F.storeV (s:={ s with heap:=h₂,toks:=tk₂ }) (.inl (by kernel_rfl)) rfl fun h₃ tk₃ F₃ k₃ kp₃ v₃ => ?_)
  have x₃ : RI prog w hb hF O env A h₃ fa v:=x₂.stored ⟨F₃,x.F.kb,x.F.onew⟩ k₃ kp₃ (by decide +kernel) (by decide +kernel)
  have I₃:=aJ.off I₂ k₃ fun b z => ⟨z.1.1,fun q => hDS b q z.2⟩
  have r₃ : Rep prog w O h₃ vx all[i]:=rv.keepBut (k₃.mono fun b z => z.1.1)
  have key : ∀ h',KeepBut (fun b => OwnS hF O env b ∨ b ∈ Ds) h₂ h' → St (i + 1) h' ∧ KeepBut O h₀ h':=fun h' k => by
   refine ⟨it.frame (i + 1) h₂ h' st₂ fun b o hc hbI e => k.same (fun z => ?_) e hc,(kb.trans (k12.mono gr.self)).trans (k.mono fun b z => z.elim (fun z => z.1.1) fun z => gr.sub b (hDO b z))⟩
   rcases z with z | z
   ·rcases hbI with rfl | ⟨nO,o',eo⟩
    ·exact nS z.2
    ·rcases gr.new b z.1.1 with y | y | y
     ·exact nO y
     ·subst y;exact nS z.2
     ·rw [y] at eo;cases eo
   ·rcases hbI with rfl | ⟨nO,_⟩
    ·exact hDI z
    ·exact nO (hDO b z)
  have eB : forB redF = [nth (forB redF) 0]:=rfl
  rw [eB]
  have eS : nth (forB redF) 0 = nth (forB redF) 0:=rfl
  conv at eS => rhs;whnf
  rw [eS]
  refine execs_cons (wpAny_Assign_Name (wpAny_Call_Name_kw (x₃.vf.name (s:={ s with heap:=h₃,toks:=tk₃ }) F₃ ?_)) (by rfl))
  rw [starEach_cons rfl,starEach_cons rfl,backTo_cons,backTo_cons]
  refine Calls.callWith_function (o:=of) (fd:=fdf) (Calls.evalArgs_plain (Calls.spliced_cons (x₃.vv.name (s:={ s with heap:=h₃,toks:=tk₃ }) F₃ (Calls.spliced_cons (v₃.name (s:={ s with heap:=h₃,toks:=tk₃ }) F₃ (Calls.spliced_nil ⟨⟨x₃.F.F.keep.same hof hcf,hdf⟩,?_⟩))))))
  refine step i all[i] (List.getElem?_eq_getElem hilt) A { s with heap:=h₃,toks:=tk₃ } O v vx _ _ rm x₃.F.base F₃.keep x₃.K F₃.old x₃.F.onew (fun b z => gr.sub b (hDO b z)) I₃ r₃ fun h₄ tk₄ v' k₄ I₄ => ?_
  have x₄:=x₃.chgJ k₄ (fun b z => gr.sub b (hDO b z)) hDS hDF (fun b z o ho => by
   obtain ⟨o',ho',hc'⟩:=aJ.ds I₃ b z
   cases ho.symm.trans ho'
   exact hc') fun b z => let ⟨o,ho,_⟩:=aJ.ds I₄ b z;⟨o,ho⟩
  refine x₄.F.F.storeV (s:={ s with heap:=h₄,toks:=tk₄ }) (.inl (by kernel_rfl)) rfl fun h₅ tk₅ F₅ k₅ kp₅ v₅ => ?_
  have x₅ : RI prog w hb hF O env A h₅ fa v':=⟨⟨F₅,x.F.kb,x.F.onew⟩,x₄.K.off x₄.F.F (k₅.mono fun b z => z.2) kp₅.lc fun a z => .inl z,kp₅.vk _ _ (by decide +kernel) x₄.vf,v₅⟩
  have I₅:=aJ.off I₄ k₅ fun b z => ⟨z.1.1,fun q => hDS b q z.2⟩
  obtain ⟨st₅,kb₅⟩:=key h₅ (((k₃.mono fun b z => .inl z).trans (k₄.mono fun b z => .inr z)).trans (k₅.mono fun b z => .inl z))
  show wpAny _ _ (execs [] env) _ _ _
  refine wpAny_of_eq (PySem.execs_nil env) ?_
  exact ih (i + 1) { s with heap:=h₅,toks:=tk₅ } v' R (by omega) st₅ kb₅ x₅ I₅ hR
end
end
section
variable [bs : Base]
section
variable {prog : Program} {w : World} {hb : Heap} {mg mb : Str → Option Value} {n : Nat} {A : Around} {s : Shared} {env : Env} {E : Value → Shared → Prop}
variable {hF : Heap} {O : Addr → Prop} {Ds : List Addr} {J : (Addr → Prop) → Nat → Value → Heap → Prop}
set_option maxRecDepth 10000 in
theorem reduce_rule (aJ : Acc Ds J) (G : Gl prog w TA hb mg mb) (FR : FnAt hb mg (Str.ofString "reduce") reduceF) {ma : Addr} {mo : Obj} (hma : mg (Str.ofString "_initial_missing") = some (.ref ma)) (hmo : hb.get? ma = some mo) (hmc : mo.cls ≠ .type "tuple" ∧ mo.cls ≠ .type "frame")
  (rm : Rm false hb 80 A) (kb : Keep hb s.heap) (K : Stk hb A s.heap) (old : Old O s.heap) (onew : ∀ a,O a → hb.get? a = none) (hDO : ∀ b ∈ Ds,O b) (hDd : ∀ b ∈ Ds,∃ o es n,s.heap.get? b = some o ∧ o.data = .dict es n)
  {fa : Addr} {of : Obj} {fdf : FuncData} (hof : s.heap.get? fa = some of) (hcf : of.cls ≠ .type "frame") (hdf : of.data = .func fdf) (hfD : fa ∉ Ds)
  {all : List PyData} {la : Addr} {us : List Value} (hnl : ¬ O la) (hl : PL s.heap la us) (hr : RepAll prog w O s.heap us all) {t : Addr} {ot : Obj} (hot : s.heap.get? t = some ot) (htm : t ≠ ma) (I : J O 0 (.ref t) s.heap)
  (step : StepOk prog w hb (mask s.heap Ds) Ds J all fa) {Q : Value → Shared → Prop}
  (hQ : ∀ h' tk v',KeepBut (fun b => b ∈ Ds) s.heap h' → J O all.length v' h' → Q v' { s with heap:=h',toks:=tk }) :
  ∃ a,mg (Str.ofString "reduce") = some (.ref a) ∧ (∃ o fd,hb.get? a = some o ∧ o.cls ≠ .type "frame" ∧ o.data = .func fd) ∧ wpAny (model prog w) A (call (.ref a) [.ref fa,.ref la,.ref t]) Q E s:=by
 have hpar : reduceF.params = [Str.ofString "function",Str.ofString "sequence",Str.ofString "initial"]:=rfl
 have hbody : reduceF.body = [nth reduceF.body 0,nth reduceF.body 1,redF,nth reduceF.body 3]:=rfl
 obtain ⟨a,ha,hd',call⟩:=fn_rule (prog:=prog) (w:=w) (R:=fun r s' => match r with | .ok (.ret v) => Q v s' | .ok _ => False | .error e => E e s') (O:=O) (ρ:=[]) FR G.lim (rm.le (show 77 ≤ 80 by omega)) kb old onew (vs:=[.ref fa,.ref la,.ref t]) (by rw [hpar];rfl)
  (fun ζ ζ e => nomatch e) (fun env O₁ h₁ tk₁ ent => by
   have rm' : Rm false hb 76 (A.deeper env):=rm.le (show 77 ≤ 80 by omega) |>.deeper env
   have K₁:=ent.stk K
   have vF:=ent.vars (Str.ofString "function") (.ref fa) (by rw [hpar];simp)
   have vS:=ent.vars (Str.ofString "sequence") (.ref la) (by rw [hpar];simp)
   have vI:=ent.vars (Str.ofString "initial") (.ref t) (by rw [hpar];simp)
   have kE : Keep s.heap h₁:=ent.keep
   have kM : Keep (mask s.heap Ds) s.heap:=mask_keep
   have kbM : Keep hb (mask s.heap Ds):=fun b o e => by
    obtain ⟨o',e',al⟩:=kb b o e
    exact ⟨o',(mask_other fun hm => nomatch (onew b (hDO b hm)).symm.trans e).trans e',al⟩
   have F₁ : Fx prog w hb reduceF.names (mask s.heap Ds) O₁ h₁ env []:=⟨FrI.older ent.F.F kM,kbM,ent.F.onew⟩
   have nSl : ∀ b ∈ Ds,¬ Sl env b:=fun b hb' z => by
    obtain ⟨o,es,n,ho,hd⟩:=hDd b hb'
    rcases z with rfl | ⟨x,hx⟩
    ·exact nomatch (ent.F.F.oloc.2).symm.trans ho
    ·obtain ⟨ov,o₂,ho₂,hd₂⟩:=ent.F.F.allc x b hx
     obtain ⟨o₃,ho₃,al⟩:=kE b o ho
     cases ho₂.symm.trans ho₃
     exact nomatch hd.symm.trans (al.data.symm.trans hd₂)
   rw [hbody]
   have e0 : nth reduceF.body 0 = nth reduceF.body 0:=rfl
   conv at e0 => rhs;whnf
   rw [e0]
   have nla : ¬ O₁ la:=fun z => (ent.new _ z).elim hnl (fun q => by obtain ⟨_,e⟩:=hl;rw [q] at e;cases e)
   refine execs_cons (wpAny_Assign_Name (wpAny_Call_Name_kw (nameB_ok (s:={ s with heap:=h₁,toks:=tk₁ }) G F₁ (by kernel_rfl) (by decide +kernel : blts.lookup (Str.ofString "iter") = some "iter") ?_)) (by rfl))
   rw [starEach_cons rfl,backTo_cons]
   refine callWith_blt rfl (Calls.evalArgs_plain (Calls.spliced_cons (vS.name (s:={ s with heap:=h₁,toks:=tk₁ }) F₁.F (Calls.spliced_nil ?_))))
   show wpAny _ _ (PySem.call (.builtin "iter") [.ref la]) _ _ _
   refine iter_call (s:={ s with heap:=h₁,toks:=tk₁ }) (rm'.hand rfl) nla (hl.keepK kE) ((hr.more ent.new).keep kE) fun Ia h₂ St k₂ hIn it st nfr => ?_
   obtain ⟨oI,hoI,ntI⟩:=(it (forT redF)).ex _ _ st Ia rfl
   have F₂:=F₁.addI k₂ hIn ⟨oI,hoI,ntI⟩
   have gr : Grow O₁ h₂ (· = Ia) (fun a => O₁ a ∨ a = Ia):=⟨fun ζ z => .inl z,fun ζ z => .inr z,fun a z => z.elim .inl fun y => .inr (.inl y)⟩
   have nS : ¬ Sl env Ia:=fun z => by obtain ⟨o,ho⟩:=F₁.slot_old z;rw [hIn] at ho;cases ho
   have no : ∀ {x y : String},x ≠ y → Str.ofString x ∉ [Str.ofString y]:=fun hx => by rw [List.mem_singleton,ofString_iff];exact hx
   have hDI : Ia ∉ Ds:=fun q => by
    obtain ⟨o,es,n,ho,_⟩:=hDd Ia q
    exact nomatch (kE.none hIn).symm.trans ho
   have stO : ∀ h',KeepBut (OwnS (mask s.heap Ds) (fun a => O₁ a ∨ a = Ia) env) h₂ h' → St 0 h':=fun h' k => (it (forT redF)).frame 0 h₂ h' st fun b o hc hbI e => k.same (fun z => by
    rcases hbI with rfl | ⟨nO,_⟩
    ·exact nS z.2
    ·rcases z.1.1 with y | y
     ·exact nO y
     ·subst y;exact nS z.2) e hc
   have I₂ : J (fun a => O₁ a ∨ a = Ia) 0 (.ref t) h₂:=aJ.off (aJ.into (aJ.off (aJ.into I ent.new) (B:=fun ζ => False) kE.but nofun) (O':=fun a => O₁ a ∨ a = Ia) fun a z => z.imp_right fun (y : a = Ia) => y ▸ hIn) (B:=fun ζ => False) k₂.but nofun
   have offS : ∀ {v : Value} {h h' : Heap},J (fun a => O₁ a ∨ a = Ia) 0 v h → KeepBut (OwnS (mask s.heap Ds) (fun a => O₁ a ∨ a = Ia) env) h h' → J (fun a => O₁ a ∨ a = Ia) 0 v h':=fun I k => aJ.off I k fun b z => ⟨z.1.1,fun q => nSl b q z.2⟩
   refine F₂.F.storeV (s:={ s with heap:=h₂,toks:=tk₁ }) (.inl (by kernel_rfl)) rfl fun h₃ tk₃ F₃ k₃ kp₃ v₃ => ?_
   have vF₃:=kp₃.vk _ _ (no (show "function" ≠ "it" by decide)) (vF.keep k₂)
   have vI₃:=kp₃.vk _ _ (no (show "initial" ≠ "it" by decide)) (vI.keep k₂)
   have K₃:=(K₁.keep k₂).off F₂.F (k₃.mono fun b z => z.2) kp₃.lc fun a z => .inl z
   have Fx₃ : Fx prog w hb reduceF.names (mask s.heap Ds) (fun a => O₁ a ∨ a = Ia) h₃ env []:=⟨F₃,kbM,F₂.onew⟩
   have ext : ∃ o,h₃.get? t = some o:=by
    obtain ⟨o1,e1,_⟩:=kE t ot hot
    obtain ⟨o2,e2,_⟩:=k₂ t o1 e1
    by_cases z : OwnS (mask s.heap Ds) (fun a => O₁ a ∨ a = Ia) env t
    ·exact F₃.old t z.1.1
    ·obtain ⟨o3,e3,_⟩:=k₃ t o2 z e2
     exact ⟨o3,e3⟩
   obtain ⟨ot₃,ext⟩:=ext
   have e1 : nth reduceF.body 1 = nth reduceF.body 1:=rfl
   conv at e1 => rhs;whnf
   rw [e1]
   refine execs_cons (wpAny_If (wpAny_isTrue_Compare1 (vI₃.name (s:={ s with heap:=h₃,toks:=tk₃ }) F₃ (nameG_ok (s:={ s with heap:=h₃,toks:=tk₃ }) G Fx₃ (by kernel_rfl) hma ?_)) (by rfl)))
   refine wpAny_bind (SeqAt.wpAny_isSame_ref_other' (s:={ s with heap:=h₃,toks:=tk₃ }) htm ext (Fx₃.base.same hmo hmc.2) hmc.1 (wpAny_pure (wpAny_truthy_bool ?_)))
   simp only [Bool.false_eq_true,if_false]
   refine execs_cons (wpAny_Assign_Name (vI₃.name (s:={ s with heap:=h₃,toks:=tk₃ }) F₃ ?_) (by rfl))
   refine F₃.storeV (s:={ s with heap:=h₃,toks:=tk₃ }) (.inl (by kernel_rfl)) rfl fun h₄ tk₄ F₄ k₄ kp₄ v₄ => ?_
   have Fx₄ : Fx prog w hb reduceF.names (mask s.heap Ds) (fun a => O₁ a ∨ a = Ia) h₄ env []:=⟨F₄,kbM,F₂.onew⟩
   have x₄ : RI prog w hb (mask s.heap Ds) (fun a => O₁ a ∨ a = Ia) env (A.deeper env) h₄ fa (.ref t):=⟨Fx₄,K₃.off F₃ (k₄.mono fun b z => z.2) kp₄.lc fun a z => .inl z,kp₄.vk _ _ (no (show "function" ≠ "value" by decide)) vF₃,v₄⟩
   have vit:=kp₄.vk _ _ (no (show "it" ≠ "value" by decide)) v₃
   have k24:=k₃.trans k₄
   have I₄:=offS (offS I₂ k₃) k₄
   show wpAny _ _ (execs [] env) _ _ _
   refine wpAny_of_eq (PySem.execs_nil env) ?_
   have e2 : redF = redF:=rfl
   conv at e2 => rhs;whnf
   refine execs_cons ?_
   conv => arg 3;arg 1;rw [e2]
   refine wpAny_For (vit.name (s:={ s with heap:=h₄,toks:=tk₄ }) F₄ ((it (forT redF)).self 0 _ _ _ (stO h₄ k24) ?_))
   refine reduce_loop aJ ((mask_other hfD).trans hof) hcf hdf (rm'.le (by omega)) step (it _) nS (kM.none (kE.none hIn)) gr nfr (fun b z => ent.sub b (hDO b z)) (fun b z => mask_in z) nSl hDI all.length 0 { s with heap:=h₄,toks:=tk₄ } (.ref t) _ (Nat.zero_add _) (stO h₄ k24) (k24.mono fun b z => z.1.1) x₄ I₄ fun h₅ tk₅ v' x₅ I₅ => ?_
   have e3 : nth reduceF.body 3 = nth reduceF.body 3:=rfl
   conv at e3 => rhs;whnf
   show wpAny _ _ (execs [nth reduceF.body 3] env) _ _ _
   rw [e3]
   refine execs_cons (wpAny_Return_some (x₅.vv.name (s:={ s with heap:=h₅,toks:=tk₅ }) x₅.F.F ?_))
   refine hQ h₅ tk₅ v' (keep_unmask x₅.F.F.keep) (aJ.into I₅ fun b z => .inl ⟨.inl (ent.sub b z),fun e => ?_⟩)
   subst e
   exact old.not (kE.none hIn) z)
 exact ⟨a,ha,hd',wpAny_call call⟩
end
end
section
variable [bs : Base]
noncomputable def lawF : Fn:=fnAt PP none 42
noncomputable def LB (i : Nat) : Stmt:=nth lawF.body i
noncomputable def argE (i : Nat) (e : Expr) : Expr:=if h : e.ctorIdx = 16 then Expr.Call.elim (motive_1:=fun ζ => Expr) e h fun ζ as ζ ζ => (as[i]?).getD e else e
section
variable {prog : Program} {w : World} {hb : Heap} {mg mb : Str → Option Value} {n : Nat} {A : Around} {s : Shared} {env : Env} {E : Value → Shared → Prop}
variable {hF : Heap} {O : Addr → Prop} {ρ : Vars} {sc : Names}
theorem lam_make {params : Arguments} {body : Expr} {scope : Scope} {pos : Pos} (G : GroundA prog w hb mg mb) (F : Fx prog w hb sc hF O s.heap env ρ) (hcode : env.code = .ref 178) (hC : CodeHd s.heap 178 176) (hP : s.heap.get? 176 = some (tabObj #[])) (hcl : closureFor scope env = pure []) (hdef : defaultsOf params env = ([],[]))
  {Q : Value → Shared → Prop} (hQ : ∀ f qual pm cdv ct ps h' tk,KeepBut (· = 176) s.heap h' → h'.get? 176 = some (tabObj ps) → s.heap.get? f = none → f ≠ 176 → h'.get? f = some { cls:=.type "function",data:=.func (kla_fn (Str.ofString "<lambda>") qual params body scope [] pm cdv ct) } → h'.CodeRec cdv qual → Q (.ref f) { s with heap:=h',toks:=tk }) :
  wpAny (model prog w) A (eval (.Lambda params body scope pos) env) Q E s:=by
 have kb:=F.base
 have g:=ns_keep G.g kb
 refine kla_eval hdef ?_
 obtain ⟨bm,ob,b1,b2,b3,b4,b5,b6⟩:=G.bm
 have b3 : s.heap.get? bm = some ob:=kb.same b3 (by rw [b4];decide)
 have gP : mainGlobals ≠ 176:=by decide
 refine kla_makeFunction hcl F.F.glob g hcode hC hP trivial rfl gP ⟨bm,ob,b1,b2,fun q => ?_,fun q => ?_,b3,b4,b5,b6⟩ fun c' ctv h' tk hx hge hlt hrec htb => ?_
 ·obtain ⟨o,es,ep,e,hd,_⟩:=g
  rw [q,e] at b3;cases b3;rw [hd] at b6;cases b6
 ·rw [q,hP] at b3;cases b3;cases b4
 have nf : h'.objs.size ≠ 176:=fun q => Nat.lt_irrefl 176 (Nat.lt_trans (Nat.lt_of_lt_of_le (Heap.lt_size hP) hge) (q ▸ hlt))
 have fresh : s.heap.get? h'.objs.size = none:=Heap.get?_none_of_le (Nat.le_trans hge (Nat.le_of_lt hlt))
 exact hQ _ _ _ (.ref c') ctv _ _ _ (.of fun b o nb e => Heap.get?_push_of_some _ (hx b o nb e)) (Heap.get?_push_of_some _ htb) fresh nf (Heap.get?_push_size _ rfl) (hrec.keeps fun b o e => Heap.get?_push_of_some _ e)
theorem lam_call {params : Arguments} {body : Expr} {scope : Scope} {f : Addr} {qual : Str} {pm cdv ct : Value} {F : Fn} {vs : List Value} {ds : List PyData} {d : PyData} (G : GroundA prog w hb mg mb) (hn : scope.names = F.names) (hk : scope.kind = .function) (hgen : scope.isGenerator = false) (hco : scope.isCoroutine = false) (hok : okFn F = true)
  (hbind : bindArgs (kla_fn (Str.ofString "<lambda>") qual params body scope [] pm cdv ct) ⟨vs,[]⟩ = pure (F.params.zip vs)) (hf : s.heap.get? f = some { cls:=.type "function",data:=.func (kla_fn (Str.ofString "<lambda>") qual params body scope [] pm cdv ct) }) (hrec : s.heap.CodeRec cdv qual)
  (rm : Rm false hb (n + 1) A) (kb : Keep hb s.heap) (K : Stk hb A s.heap) (old : Old O s.heap) (onew : ∀ a,O a → hb.get? a = none) (rs : RepAll prog w O s.heap vs ds) (hex : (evs TA n).ex F.names (F.params.zip ds) body = some d)
  {Q : Value → Shared → Prop} (hQ : ∀ v s',Post prog w O s s' v d → Q v s') : wpAny (model prog w) A (call (.ref f) vs) Q E s:=by
 simp only [okFn,Bool.and_eq_true,List.all_eq_true,decide_eq_true_eq,Bool.or_eq_true,Bool.not_eq_true',decide_eq_false_iff_not] at hok
 obtain ⟨⟨⟨⟨⟨o1,o2⟩,o3⟩,o4⟩,o5⟩,o6⟩:=hok
 have hroom : A.depth < recursionLimit:=by have:=rm.depth;omega
 refine wpAny_call (kla_callFunE hroom hf rfl hco hgen rfl hrec ?_)
 rw [hbind]
 refine wpAny_pure (fnEnv_rule (prog:=prog) (w:=w) hn hk o2 o3 (fun x hx => o4 _ (lookupM hx) rfl) o5 o6 kb old onew (ρ:=F.params.zip ds) (zip_rep rs) fun env O₁ h' tk ent ζ => ⟨noLimit_keepK (G.AO 0).bd.G.lim (kb.trans ent.keep),kla_codeExpr ?_⟩)
 refine (G.AO n).bd.ex _ _ _ _ hex (A.deeper env) { s with heap:=h',toks:=tk } env s.heap O₁ _ _ (rm.deeper env) ent.F (ent.stk K) fun v s' ps => ?_
 obtain ⟨h₂,tk₂,rfl,k2,rv⟩:=ps
 exact hQ _ _ ⟨h₂,tk₂,rfl,ent.keep.trans k2,rv.less ent.sub⟩
end
end
section
variable [bs : Base]
noncomputable def peerT : PyData:=.tuple [.str (Str.ofString "peer"),.int 21]
noncomputable def peerE (n : Nat) (p : Pos) (k1 : Nat) (p1 : Pos) (k2 : Nat) (p2 : Pos) : Expr:=.Tuple [.Constant (.str (Str.ofString "peer")) k1 p1,.Constant (.int 21) k2 p2] n p
theorem ns1 {x y : String} (h : x ≠ y) : Str.ofString x ∉ [Str.ofString y]:=by rw [List.mem_singleton,ofString_iff];exact h
section
variable {prog : Program} {w : World} {T : Tab} {hb : Heap} {mg mb : Str → Option Value} {cl : Str → Option Value} {n : Nat} {A : Around} {s : Shared} {env : Env} {E : Value → Shared → Prop}
variable {hF : Heap} {O O₁ : Addr → Prop} {bk : Addr} {ρ : Vars} {H S : List PyData}
theorem dset_rule {kvs : List (PyData × PyData)} {k : Str} {t : Tok} {v : Value} {d : PyData} (ai : AccD prog w bk O s.heap kvs) (hO : O bk) (rv : Rep prog w O s.heap v d) (hlim : kvs.length ≤ 1000) {Q : Unit → Shared → Prop}
  (h : ∀ h' tk,AccD prog w bk O h' (putD kvs k d) → KeepBut (· = bk) s.heap h' → Q () { s with heap:=h',toks:=tk }) : wpAny (model prog w) A (setItem (.ref bk) (.str k t) v) Q E s:=by
 obtain ⟨ents,xs,rfl,dd,rs⟩:=ai
 have hlen:=rs.length
 unfold setItem
 try with_reducible refine wpAny_holding ?_
 first | refine wpAny_bind (wpAny_pure ?_) | skip
 refine wpAny_bind (wpAny_sequenceKey dd.typeIs (by decide) ?_)
 refine wpAny_bind (wpAny_callSpecial?_slot (name:=Str.ofString "__setitem__") dd.typeIs PySem.F.slot_dict_setitem
  (wpAny_call_entry PySem.F.slot_dict_setitem dd.typeIs PySem.F.entry_dict_setitem ?_ (PySem.F.args_dict_setitem_3 _ _ _)))
 show wpAny _ _ (Builtin.Dict.notOrdered "__setitem__" ⟨[.ref bk,.str k t,v],[]⟩ >>= _) _ _ s
 refine wpAny_bind (wpAny_notOrdered_dict dd.typeIs ?_)
 show wpAny _ _ (dictSet bk (.str k t) v >>= _) _ _ s
 refine wpAny_bind (wpAny_dictSet_pairs (strKind_is prog w k t) dd (fun h₃ dd₃ sb => ?_) (by rw [sizeLine_eq];simp at hlim hlen;omega))
 have kD : KeepBut (· = bk) s.heap h₃:=KeepBut.of_sameBut sb rfl
 obtain ⟨xs',e1,e2⟩:=stored_rep (k:=k) rv rs
 exact wpAny_pure ⟨.none,rfl,wpAny_pure (h h₃ _ ⟨_,xs',e1,dd₃,e2.keepBut (kD.mono fun a q => q ▸ hO)⟩ kD)⟩
noncomputable def SJ (prog : Program) (w : World) (O : Addr → Prop) (h : Heap) (bk : Addr) (v : Value) (H S : List PyData) : Prop :=
 ∃ t vh vs,v = .ref t ∧ ¬ O t ∧ PT h t [.ref bk,vh,vs] ∧ Rep prog w O h vh (.list H) ∧ Rep prog w O h vs (.list S)
theorem SJ.keepBut {v : Value} {h h' : Heap} (x : SJ prog w O h bk v H S) (k : KeepBut O h h') : SJ prog w O h' bk v H S :=
 let ⟨t,vh,vs,e,nt,pt,r1,r2⟩:=x;⟨t,vh,vs,e,nt,pt.off k nt,r1.keepBut k,r2.keepBut k⟩
theorem SJ.keep {v : Value} {h h' : Heap} (x : SJ prog w O h bk v H S) (k : Keep h h') : SJ prog w O h' bk v H S:=x.keepBut k.but
theorem SJ.more {v : Value} {h : Heap} (x : SJ prog w O h bk v H S) (k : ∀ a,O₁ a → O a ∨ h.get? a = none) : SJ prog w O₁ h bk v H S :=
 let ⟨t,vh,vs,e,nt,pt,r1,r2⟩:=x;⟨t,vh,vs,e,fun z => (k _ z).elim nt (fun q => by (obtain ⟨_,e⟩:=pt;rw [q] at e;cases e)),pt,r1.more k,r2.more k⟩
structure HB (prog : Program) (w : World) (hb hF : Heap) (O : Addr → Prop) (env : Env) (A : Around) (bk : Addr) (h : Heap) (ρ : Vars) : Prop where
 F : Fx prog w hb heardF.names hF O h env ρ
 K : Stk hb A h
 vb : VarIs h env heardF.names (Str.ofString "book") (.ref bk)
theorem HB.keep {h h' : Heap} (x : HB prog w hb hF O env A bk h ρ) (k : Keep h h') : HB prog w hb hF O env A bk h' ρ:=⟨x.F.keeps k,x.K.keep k,x.vb.keep k⟩
theorem HB.stored {ρ' : Vars} {X : List Str} {h h' : Heap} (x : HB prog w hb hF O env A bk h ρ) (F' : Fx prog w hb heardF.names hF O h' env ρ') (k : KeepBut (OwnS hF O env) h h') (kp : Kept env heardF.names X h h')
  (h1 : Str.ofString "book" ∉ X) : HB prog w hb hF O env A bk h' ρ' :=
 ⟨F',x.K.off x.F.F (k.mono fun b z => z.2) kp.lc fun a z => .inl z,kp.vk _ _ h1 x.vb⟩
theorem HB.any {A' : Around} {h : Heap} (x : HB prog w hb hF O env A bk h ρ) (hA : A'.frames = A.frames) : HB prog w hb hF O env A' bk h ρ :=
 ⟨x.F,let ⟨l,e,f⟩:=x.K;⟨l,hA.trans e,f⟩,x.vb⟩
set_option maxRecDepth 10000 in
theorem heard_open (rm : Rm false hb 60 A) {v : Value} (F : Fx prog w hb heardF.names hF O s.heap env ρ) (K : Stk hb A s.heap) (hρ : ρ.lookup (Str.ofString "book") = none) (vi : VarIs s.heap env heardF.names (Str.ofString "state") v) (J : SJ prog w O s.heap bk v H S)
  {Q : Flow → Shared → Prop} (hQ : ∀ h' tk,HB prog w hb hF O env A bk h' (setV (setV ρ (Str.ofString "heard") (.list H)) (Str.ofString "spoiled") (.list S)) → KeepBut (Sl env) s.heap h' → Q .next { s with heap:=h',toks:=tk }) :
  wpAny (model prog w) A (exec (nth heardF.body 0) env) Q E s:=by
 obtain ⟨t,vh,vs,rfl,nt,pt,r1,r2⟩:=J
 have eS : nth heardF.body 0 = nth heardF.body 0:=rfl
 conv at eS => rhs;whnf
 rw [eS]
 refine Assign_Tuple (vi.name F.F ?_)
 rw [PyProof.Rows.assign_Tuple]
 refine wpAny_bind (wpAny_standAt ?_)
 refine unpack_tuple (rm.hand rfl) pt.isTuple (by rfl) (by rfl) fun h₁ ext => ?_
 have k1 : Keep s.heap h₁:=.of fun b o e => ext b o (Nat.ne_of_lt (Heap.lt_size e)) e
 have F₁:=F.keeps k1
 refine wpAny_bind (wpAny_holding (wpAny_assign_Name (F₁.F.storeV (s:={ s with heap:=h₁ }) (.inl (by kernel_rfl)) hρ fun h₂ tk₂ F₂ k₂ kp₂ v₂ => ?_)))
 have Fx₂ : Fx prog w hb heardF.names hF O h₂ env ρ:=⟨F₂,F.kb,F.onew⟩
 refine wpAny_bind (wpAny_holding (wpAny_assign_Name (Fx₂.store (s:={ s with heap:=h₂,toks:=tk₂ }) (show isOwn (heardF.names.lookup (Str.ofString "heard")) = true by kernel_rfl) ((r1.keep k1).keepBut (k₂.mono fun b z => z.1.1)) fun h₃ tk₃ F₃ k₃ kp₃ v₃ => ?_)))
 refine wpAny_bind (wpAny_holding (wpAny_assign_Name (F₃.store (s:={ s with heap:=h₃,toks:=tk₃ }) (show isOwn (heardF.names.lookup (Str.ofString "spoiled")) = true by kernel_rfl) (((r2.keep k1).keepBut (k₂.mono fun b z => z.1.1)).keepBut (k₃.mono fun b z => z.1.1)) fun h₄ tk₄ F₄ k₄ kp₄ v₄ => ?_)))
 have kS : KeepBut (Sl env) s.heap h₄:=(k1.but.trans (k₂.mono fun b z => z.2)).trans ((k₃.mono fun b z => z.2).trans (k₄.mono fun b z => z.2))
 refine wpAny_pure (hQ h₄ tk₄ ⟨F₄,?_,kp₄.vk _ _ (ns1 (by decide)) (kp₃.vk _ _ (ns1 (by decide)) v₂)⟩ kS)
 obtain ⟨m,hm⟩:=F.ns
 exact K.off F.F (C:=Sl env) kS ((((Kept.of_keep (sc:=heardF.names) hm k1).trans kp₂).trans kp₃).trans kp₄).lc fun a z => .inl z
set_option maxRecDepth 10000 in
theorem heard_257 (AO : ∀ k,AllOk prog w T hb mg mb cl k (evs T k)) (rm : Rm false hb 60 A) {reply : Str} {res : Except Ex PyData} (h257 : (evs T 60).fn (Str.ofString "parse257") [.str reply] = some res) (hrep : ρ.lookup (Str.ofString "reply") = some (.str reply)) (hh : ρ.lookup (Str.ofString "heard") = some (.list H)) (hs : ρ.lookup (Str.ofString "spoiled") = some (.list S))
  (x : HB prog w hb hF O env A bk s.heap ρ) (hd : H.length ≤ 100000) {Q : Flow → Shared → Prop}
  (hQ : ∀ p,res = .ok p → ∀ h' tk v,Keep s.heap h' → SJ prog w O h' bk v (H ++ [p]) S → Q (.ret v) { s with heap:=h',toks:=tk })
  (hE : ∀ y,res = .error y → ∀ e h₁ h' tk C,cl y.cls = some C → Keep s.heap h₁ → Fly2 h₁ h' e C y.word .none → E (.ref e) { s with heap:=h',toks:=tk }) :
  wpAny (model prog w) A (exec (nth (svB (nth heardF.body 1)) 0) env) Q E s:=by
 have eS : nth (svB (nth heardF.body 1)) 0 = nth (svB (nth heardF.body 1)) 0:=rfl
 conv at eS => rhs;whnf
 rw [eS]
 have hev : ∀ p,evList (evs T 60) heardF.names ρ [.Name (Str.ofString "reply") p] = some [.str reply]:=fun p => evList_one rfl (by
  rw [show (evs T 60).ex = exE T (evs T 59) from ev_ex T 59,x_name,show heardF.names.lookup (Str.ofString "reply") = some .local by kernel_rfl,hrep];rfl)
 refine wpAny_Return_some (tuple3 rfl rfl rfl (x.vb.name x.F.F (listAdd (x.F.F.name hh (.inl (by kernel_rfl)) fun vh rh => ?_))))
 obtain ⟨lp,us,rfl,nlp,plp,rsp⟩:=rh.is
 refine list1 rfl (fn_eval (AO 60).bd.G (AO 60).bd.ex (AO 60).fn rm (by kernel_rfl) (hev _) h257 x.F x.K (fun p e v s' ps => ?_) hE)
 obtain ⟨h₁,tk₁,rfl,k1,rv⟩:=ps
 intro l1 h₂ hl1 pl1 k2
 have hlen:=rsp.length
 refine ⟨lp,l1,us,_,rfl,rfl,(plp.keepK k1).keepK k2,pl1,by simp;omega,fun vp' h₃ hvp plv k3 => ?_⟩
 have k13:=(k1.trans k2).trans k3
 have x₃:=x.keep k13
 refine x₃.F.F.name (s:={ s with heap:=h₃,toks:=tk₁ }) hs (.inl (by kernel_rfl)) fun vs rs t' h₄ ht' pt' k4 => ?_
 have k14:=k13.trans k4
 refine hQ p e h₄ tk₁ _ k14 ⟨t',_,_,rfl,x₃.F.F.old.not ht',pt',.list (x.F.F.old.not ((k1.trans k2).none hvp)) (plv.keepK k4) ((rsp.keep k14).append (RepAll.one ((rv.keep (k2.trans k3)).keep k4))),rs.keep k4⟩
set_option maxRecDepth 10000 in
theorem heard_try1no (AO : ∀ k,AllOk prog w T hb mg mb cl k (evs T k)) {Cr Cp : Addr} (X : Xs prog w hb mg Cr Cp) (hcr : cl (Str.ofString "error_reply") = some (.ref Cr)) (rm : Rm false hb 60 A) {l : List Env} {L0 : Addr} (hfr : A.frames = some (env :: l)) (hf : env.frame = some L0) {reply y : Str} (h257 : (evs T 60).fn (Str.ofString "parse257") [.str reply] = some (.error ⟨Str.ofString "error_reply",y⟩)) (hrep : ρ.lookup (Str.ofString "reply") = some (.str reply)) (hh : ρ.lookup (Str.ofString "heard") = some (.list H)) (hs : ρ.lookup (Str.ofString "spoiled") = some (.list S)) (herr : ρ.lookup (Str.ofString "error") = none) (hd : H.length ≤ 100000)
  (x : HB prog w hb hF O env A bk s.heap ρ) {Q : Flow → Shared → Prop}
  (hQ : ∀ h' tk,HB prog w hb hF O env A bk h' (setV ρ (Str.ofString "words") (.str y)) → KeepBut (OwnS hF O env) s.heap h' → Q .next { s with heap:=h',toks:=tk }) :
  wpAny (model prog w) A (exec (nth heardF.body 1) env) Q E s:=by
 have eB : svB (nth heardF.body 1) = [nth (svB (nth heardF.body 1)) 0]:=rfl
 have eS : nth heardF.body 1 = nth heardF.body 1:=rfl
 conv at eS => rhs;whnf
 rw [eS]
 refine wpAny_Try_except ?_
 show wpAny _ _ (execs (svB (nth heardF.body 1)) env) _ _ _
 rw [eB]
 refine execs_cons (heard_257 AO rm h257 hrep hh hs x hd (fun d e => by cases e) (fun z e => ?_))
 cases e
 intro e h₁ h₂ tk₂ C hC k1 f
 rw [hcr] at hC;obtain rfl:=Option.some.inj hC
 have x₁:=x.keep k1
 refine note_next (s:={ s with heap:=h₂,toks:=tk₂ }) hfr hf (x₁.K.keep f.keep) f fun h₃ f3 K₃ ζ => ?_
 refine flight_ok (hb:=hb) (fr:=none) (s:={ s with heap:=h₃,toks:=tk₂ }) f3 fun h₄ f4 k4 ζ => ?_
 refine catch_ok (s:={ s with heap:=h₄,toks:=tk₂ }) (AO 0).bd.G X (.inl rfl) (.inl rfl) X.gr (by kernel_rfl) (by kernel_rfl) herr x₁.F f4 (fun ζ h₅ tk₅ t0 tk0 F₅ k5 kp5 vi5 he pt => ?_) (fun h => absurd rfl h)
 have hu : (A.mark (some (.ref e))).units + 10 < cLine:=by have:=rm.units;show A.units + 10 < _;omega
 refine execs_cons (wpAny_Assign_Name (strErr (s:={ s with heap:=h₅,toks:=tk₅ }) (AO 0).bd.G X (.inl rfl) hu (by kernel_rfl) F₅ vi5 he pt ?_) (by rfl))
 refine F₅.store (s:={ s with heap:=h₅,toks:=tk₅ }) (by rw [show heardF.names.lookup (Str.ofString "words") = some .local by kernel_rfl];rfl) (.str y tk0) fun h₆ tk₆ F₆ k6 kp6 vi6 => wpAny_pure ?_
 refine nameGoes_ok (s:={ s with heap:=h₆,toks:=tk₆ }) F₆.F (by kernel_rfl) (by rw [setV_lookup,if_neg (by rw [ofString_iff];decide)];exact herr) fun h₇ tk₇ F₇ k7 kp7 => ?_
 have kk : KeepBut (OwnS hF O env) h₁ h₇:=(k5.trans k6).trans k7
 refine hQ h₇ tk₇ (x₁.stored ⟨F₇,x.F.kb,x.F.onew⟩ kk ((kp5.trans kp6).trans kp7) ?_) (k1.but.trans kk)
 simp only [List.cons_append,List.nil_append,List.mem_cons,ofString_iff,List.not_mem_nil,or_false];decide
end
end
section
variable [bs : Base]
theorem pick_last (xs : List PyData) (a : PyData) : pickD (xs ++ [a]) none (some (-1)) none = xs:=by
 have h : pickD (xs ++ [a]) none (some (-1)) none = pickD (xs ++ [a]) none (some ((xs.length : Nat) : Int)) none:=by
  unfold pickD
  have e : sliceBounds none (some (-1)) none (xs ++ [a]).length = sliceBounds none (some ((xs.length : Nat) : Int)) none (xs ++ [a]).length:=by
   rw [List.length_append]
   unfold sliceBounds
   simp only [Option.getD_none,List.length_cons,List.length_nil]
   rw [if_pos (by omega : (1 : Int) > 0),if_pos (by omega : (1 : Int) > 0),if_pos (by omega : (-1 : Int) < 0),if_neg (by omega : ¬ ((xs.length : Nat) : Int) < 0)]
   congr 2
   omega
  rw [e]
 rw [h,pickD_to,List.take_left]
theorem get_last (xs : List PyData) (a : PyData) (hl : xs.length ≤ 100000) : getitem (.list (xs ++ [a])) (.int (-1)) = some a:=by
 show (if (xs ++ [a]).length ≤ lim then _ else none) = _
 rw [if_pos (by rw [List.length_append];show _ + 1 ≤ 1048576;omega)]
 have e : seqIndex? (-1) (xs ++ [a]).length = some xs.length:=by
  unfold seqIndex?
  rw [List.length_append]
  simp
  omega
 rw [e]
 simp
section
variable {prog : Program} {w : World} {T : Tab} {hb : Heap} {mg mb : Str → Option Value} {cl : Str → Option Value} {n : Nat} {A : Around} {s : Shared} {env : Env} {E : Value → Shared → Prop}
variable {hF : Heap} {O O₁ : Addr → Prop} {bk : Addr} {ρ : Vars} {H S : List PyData}
set_option maxRecDepth 10000 in
theorem heard_229 (AO : ∀ k,AllOk prog w T hb mg mb cl k (evs T k)) (rm : Rm false hb 60 A) {y : Str} {res : Except Ex PyData} (h229 : (evs T 60).fn (Str.ofString "parse229") [.str y,peerT] = some res) (hw : ρ.lookup (Str.ofString "words") = some (.str y))
  (x : HB prog w hb hF O env A bk s.heap ρ) {Q : Flow → Shared → Prop}
  (hQ : ∀ p,res = .ok p → ∀ h' tk,HB prog w hb hF O env A bk h' (setV ρ (Str.ofString "found") p) → KeepBut (OwnS hF O env) s.heap h' → Q .next { s with heap:=h',toks:=tk })
  (hE : ∀ z,res = .error z → ∀ e h₁ h' tk C,cl z.cls = some C → Keep s.heap h₁ → Fly2 h₁ h' e C z.word .none → E (.ref e) { s with heap:=h',toks:=tk }) :
  wpAny (model prog w) A (exec (nth (svB (nth heardF.body 2)) 0) env) Q E s:=by
 have eS : nth (svB (nth heardF.body 2)) 0 = nth (svB (nth heardF.body 2)) 0:=rfl
 conv at eS => rhs;whnf
 rw [eS]
 have hel : ∀ p n p0 k1 p1 k2 p2,evList (evs T 60) heardF.names ρ [.Name (Str.ofString "words") p,peerE n p0 k1 p1 k2 p2] = some [.str y,peerT]:=fun p n p0 k1 p1 k2 p2 => by
  have h1 : (evs T 60).ex heardF.names ρ (.Name (Str.ofString "words") p) = some (.str y):=by
   rw [show (evs T 60).ex = exE T (evs T 59) from ev_ex T 59,x_name,show heardF.names.lookup (Str.ofString "words") = some .local by kernel_rfl,hw];rfl
  have h2 : (evs T 60).ex heardF.names ρ (peerE n p0 k1 p1 k2 p2) = some peerT:=rfl
  unfold evList
  rw [h1,evList_one rfl h2];rfl
 refine wpAny_Assign_Name (fn_eval (AO 60).bd.G (AO 60).bd.ex (AO 60).fn rm (by kernel_rfl) (hel _ _ _ _ _ _ _) h229 x.F x.K (fun p e v s' ps => ?_) hE) (by rfl)
 obtain ⟨h₁,tk₁,rfl,k1,rv⟩:=ps
 have x₁:=x.keep k1
 exact x₁.F.store (s:={ s with heap:=h₁,toks:=tk₁ }) (show isOwn (heardF.names.lookup (Str.ofString "found")) = true by kernel_rfl) rv fun h₂ tk₂ F₂ k₂ kp₂ ζ => hQ p e h₂ tk₂ (x₁.stored F₂ k₂ kp₂ (ns1 (by decide))) (k1.but.trans k₂)
theorem heard_refuse {A : Around} {e1 : Expr} {np1 np2 np3 bp lp tp pos : Pos} {k : Nat} {z : Str} (hs : isStar e1 = false) (hh : ρ.lookup (Str.ofString "heard") = some (.list H)) (hsp : ρ.lookup (Str.ofString "spoiled") = some (.list S)) (x : HB prog w hb hF O env A bk s.heap ρ) (hd : S.length ≤ 100000)
  (he : ∀ (Q' : Value → Shared → Prop) (E' : Value → Shared → Prop),(∀ v tk,(∃ t,v = .str z t) → Q' v { s with toks:=tk }) → wpAny (model prog w) A (eval e1 env) Q' E' s) {Q : Flow → Shared → Prop}
  (hQ : ∀ h' tk v,Keep s.heap h' → SJ prog w O h' bk v H (S ++ [.str z]) → Q (.ret v) { s with heap:=h',toks:=tk }) :
  wpAny (model prog w) A (exec (.Return (some (.Tuple [.Name (Str.ofString "book") np1,.Name (Str.ofString "heard") np2,.BinOp (.Name (Str.ofString "spoiled") np3) .Add (.List [e1] lp) bp] k tp)) pos) env) Q E s:=by
 refine wpAny_Return_some (tuple3 rfl rfl rfl (x.vb.name x.F.F (x.F.F.name hh (.inl (by kernel_rfl)) fun vh rh => listAdd (x.F.F.name hsp (.inl (by kernel_rfl)) fun vs rs => ?_))))
 obtain ⟨lf,us,rfl,nlf,plf,rsf⟩:=rs.is
 refine list1 hs (he _ _ fun v tk hv => ?_)
 obtain ⟨t0,rfl⟩:=hv
 intro l1 h₂ hl1 pl1 k2
 have hlen:=rsf.length
 refine ⟨lf,l1,us,_,rfl,rfl,plf.keepK k2,pl1,by simp;omega,fun vf' h₃ hvf plv k3 => fun t' h₄ ht' pt' k4 => ?_⟩
 have k14:=(k2.trans k3).trans k4
 exact hQ h₄ tk _ k14 ⟨t',_,_,rfl,x.F.F.old.not ((k2.trans k3).none ht'),pt',rh.keep k14,.list (x.F.F.old.not (k2.none hvf)) (plv.keepK k4) ((rsf.keep k14).append (RepAll.one (.str z t0)))⟩
set_option maxRecDepth 10000 in
theorem heard_try2 (AO : ∀ k,AllOk prog w T hb mg mb cl k (evs T k)) {Cr Cp : Addr} (X : Xs prog w hb mg Cr Cp) (hne : Cr ≠ Cp) (hcr : cl (Str.ofString "error_reply") = some (.ref Cr)) (hcp : cl (Str.ofString "error_proto") = some (.ref Cp)) (rm : Rm false hb 60 A) {l : List Env} {L0 : Addr} (hfr : A.frames = some (env :: l)) (hf : env.frame = some L0)
  {y : Str} {res : Except Ex PyData} (h229 : (evs T 60).fn (Str.ofString "parse229") [.str y,peerT] = some res) (hw : ρ.lookup (Str.ofString "words") = some (.str y)) (hh : ρ.lookup (Str.ofString "heard") = some (.list H)) (hs : ρ.lookup (Str.ofString "spoiled") = some (.list S)) (herr : ρ.lookup (Str.ofString "error") = none)
  (hres : (∃ p,res = .ok p) ∨ (∃ z,res = .error ⟨Str.ofString "error_reply",z⟩ ∧ z.length ≤ 1000) ∨ ∃ z,res = .error ⟨Str.ofString "error_proto",z⟩)
  (x : HB prog w hb hF O env A bk s.heap ρ) (hd : S.length ≤ 100000) {Q : Flow → Shared → Prop}
  (hQ : ∀ p,res = .ok p → ∀ h' tk,HB prog w hb hF O env A bk h' (setV ρ (Str.ofString "found") p) → KeepBut (OwnS hF O env) s.heap h' → Q .next { s with heap:=h',toks:=tk })
  (hN : ∀ z,(res = .error ⟨Str.ofString "error_proto",z⟩ ∨ ∃ z',res = .error ⟨Str.ofString "error_reply",z'⟩ ∧ z = Str.ofString "no " ++ z') → ∀ h' tk v,KeepBut (OwnS hF O env) s.heap h' → SJ prog w O h' bk v H (S ++ [.str z]) → Q (.ret v) { s with heap:=h',toks:=tk }) :
  wpAny (model prog w) A (exec (nth heardF.body 2) env) Q E s:=by
 have eB : svB (nth heardF.body 2) = [nth (svB (nth heardF.body 2)) 0]:=rfl
 have eS : nth heardF.body 2 = nth heardF.body 2:=rfl
 conv at eS => rhs;whnf
 rw [eS]
 refine wpAny_Try_except ?_
 show wpAny _ _ (execs (svB (nth heardF.body 2)) env) _ _ _
 rw [eB]
 refine execs_cons (heard_229 AO rm h229 hw x (fun p e' h' tk x' k' => ?_) (fun z e' => ?_))
 ·show wpAny _ _ (execs [] env) _ _ _
  refine wpAny_of_eq (PySem.execs_nil env) ?_
  show wpAny _ _ (execs [] env) _ _ _
  exact wpAny_of_eq (PySem.execs_nil env) (hQ p e' h' tk x' k')
 ·intro ea h₁ h₂ tk₂ C hC k1 f
  have x₁:=x.keep k1
  have hCC : C = .ref Cr ∨ C = .ref Cp:=by
   rcases hres with ⟨p',e1⟩ | ⟨z',e1,_⟩ | ⟨z',e1⟩
   ·rw [e'] at e1;cases e1
   ·rw [e'] at e1;cases e1;rw [hcr] at hC;cases hC;exact .inl rfl
   ·rw [e'] at e1;cases e1;rw [hcp] at hC;cases hC;exact .inr rfl
  refine note_next (s:={ s with heap:=h₂,toks:=tk₂ }) hfr hf (x₁.K.keep f.keep) f fun h₃ f3 K₃ ζ => ?_
  refine flight_ok (hb:=hb) (fr:=none) (s:={ s with heap:=h₃,toks:=tk₂ }) f3 fun h₄ f4 k4 ζ => ?_
  have hu : (A.mark (some (.ref ea))).units + 10 < cLine:=by have:=rm.units;show A.units + 10 < _;omega
  have fin : ∀ (h₅ h₆ : Heap) (tk₆ : Nat) (v : Value) (z' : Str),Fx prog w hb heardF.names hF O h₅ env ρ → (res = .error ⟨Str.ofString "error_proto",z'⟩ ∨ ∃ z'',res = .error ⟨Str.ofString "error_reply",z''⟩ ∧ z' = Str.ofString "no " ++ z'') → KeepBut (OwnS hF O env) h₁ h₅ → Keep h₅ h₆ → SJ prog w O h₆ bk v H (S ++ [.str z']) →
    ∀ pos,wpAny (model prog w) A (do bindName env (Str.ofString "error") .none;unbindBehindTheSuite env (Str.ofString "error") pos) (fun ζ s₅ => Q (.ret v) s₅) E { s with heap:=h₆,toks:=tk₆ }:=fun h₅ h₆ tk₆ v z' F₅ ez k5 k6 sj pos =>
   nameGoes_ok (s:={ s with heap:=h₆,toks:=tk₆ }) (F₅.keeps k6).F (by kernel_rfl) herr fun h₇ tk₇ F₇ k7 kp7 =>
    hN z' ez h₇ tk₇ v (((k1.but.trans k5).trans k6.but).trans k7) (sj.keepBut (k7.mono fun b z => z.1.1))
  rcases hCC with rfl | rfl
  ·refine catch_ok (s:={ s with heap:=h₄,toks:=tk₂ }) (AO 0).bd.G X (.inl rfl) (.inl rfl) X.gr (by kernel_rfl) (by kernel_rfl) herr x₁.F f4 (fun ζ h₅ tk₅ t0 tk0 F₅ k5 kp5 vi5 he pt => ?_) (fun h => absurd rfl h)
   obtain ⟨z',e1,hz,e2⟩ : ∃ z',z.word = z' ∧ z'.length ≤ 1000 ∧ res = .error ⟨Str.ofString "error_reply",z'⟩:=by
    rcases hres with ⟨p',e1⟩ | ⟨z',e1,e2⟩ | ⟨z',e1⟩
    ·rw [e'] at e1;cases e1
    ·rw [e'] at e1;cases e1;exact ⟨z',rfl,e2,e'⟩
    ·rw [e'] at e1;cases e1;rw [hcp] at hC;cases hC;exact absurd rfl hne
   have x₅:=(x₁.stored F₅ k5 kp5 (ns1 (by decide))).any (A':=A.mark (some (.ref ea))) rfl
   refine execs_cons (heard_refuse (s:={ s with heap:=h₅,toks:=tk₅ }) (z:=Str.ofString "no " ++ z') rfl hh hs x₅ hd (fun Q' E' hq => ?_) fun h₆ tk₆ v k6 sj => fin h₅ h₆ tk₆ v _ F₅ (.inr ⟨z',e2,rfl⟩) k5 k6 sj _)
   refine wpAny_BinOp (Calls.Constant_str (strErr (s:={ s with heap:=h₅,toks:=tk₅ + 1 }) (AO 0).bd.G X (.inl rfl) hu (by kernel_rfl) F₅ vi5 he pt ?_))
   have h3 : (Str.ofString "no ").length = 3:=by decide +kernel
   subst e1
   exact SB.add (fun t' k => hq _ _ ⟨_,rfl⟩) (by rw [sizeLine_eq,h3];omega)
  ·refine catch_ok (s:={ s with heap:=h₄,toks:=tk₂ }) (AO 0).bd.G X (.inr rfl) (.inl rfl) X.gr (by kernel_rfl) (by kernel_rfl) herr x₁.F f4 (fun h => absurd h.symm hne) (fun ζ => ?_)
   refine catch_ok (s:={ s with heap:=h₄,toks:=tk₂ }) (AO 0).bd.G X (.inr rfl) (.inr rfl) X.gp (by kernel_rfl) (by kernel_rfl) herr x₁.F f4 (fun ζ h₅ tk₅ t0 tk0 F₅ k5 kp5 vi5 he pt => ?_) (fun h => absurd rfl h)
   obtain ⟨z',e1,e2⟩ : ∃ z',z.word = z' ∧ res = .error ⟨Str.ofString "error_proto",z'⟩:=by
    rcases hres with ⟨p',e1⟩ | ⟨z',e1,e2⟩ | ⟨z',e1⟩
    ·rw [e'] at e1;cases e1
    ·rw [e'] at e1;cases e1;rw [hcr] at hC;cases hC;exact absurd rfl hne
    ·rw [e'] at e1;cases e1;exact ⟨z',rfl,e'⟩
   have x₅:=(x₁.stored F₅ k5 kp5 (ns1 (by decide))).any (A':=A.mark (some (.ref ea))) rfl
   refine execs_cons (heard_refuse (s:={ s with heap:=h₅,toks:=tk₅ }) (z:=z') rfl hh hs x₅ hd (fun Q' E' hq => ?_) fun h₆ tk₆ v k6 sj => fin h₅ h₆ tk₆ v _ F₅ (.inl e2) k5 k6 sj _)
   exact strErr (s:={ s with heap:=h₅,toks:=tk₅ }) (AO 0).bd.G X (.inr rfl) hu (by kernel_rfl) F₅ vi5 he pt (hq _ tk₅ ⟨tk0,by rw [e1]⟩)
end
end
section
variable [bs : Base]
inductive Eff where
 | name (x : Str)
 | port (d : PyData)
 | no (x : Str)
inductive EffOk (T : Tab) (reply : Str) : Eff → Prop
 | name (x : Str) : (evs T 60).fn (Str.ofString "parse257") [.str reply] = some (.ok (.str x)) → EffOk T reply (.name x)
 | port (x : Str) (d : PyData) : (evs T 60).fn (Str.ofString "parse257") [.str reply] = some (.error ⟨Str.ofString "error_reply",x⟩) → (evs T 60).fn (Str.ofString "parse229") [.str x,peerT] = some (.ok d) → EffOk T reply (.port d)
 | noR (x y : Str) : (evs T 60).fn (Str.ofString "parse257") [.str reply] = some (.error ⟨Str.ofString "error_reply",x⟩) → (evs T 60).fn (Str.ofString "parse229") [.str x,peerT] = some (.error ⟨Str.ofString "error_reply",y⟩) → y.length ≤ 1000 → EffOk T reply (.no (Str.ofString "no " ++ y))
 | noP (x y : Str) : (evs T 60).fn (Str.ofString "parse257") [.str reply] = some (.error ⟨Str.ofString "error_reply",x⟩) → (evs T 60).fn (Str.ofString "parse229") [.str x,peerT] = some (.error ⟨Str.ofString "error_proto",y⟩) → EffOk T reply (.no y)
structure Told where
 book : List (PyData × PyData)
 heard : List PyData
 spoiled : List PyData
inductive Nx : Eff → Told → Told → Prop
 | name (x B H S) : Nx (.name x) ⟨B,H,S⟩ ⟨B,H ++ [.str x],S⟩
 | port (d B H k S) : Nx (.port d) ⟨B,H ++ [.str k],S⟩ ⟨putD B k d,H,S⟩
 | no (x B H S) : Nx (.no x) ⟨B,H,S⟩ ⟨B,H,S ++ [.str x]⟩
theorem Nx.portI {p : PyData} {d d' : Told} (h : Nx (.port p) d d') : ∃ B H k S,d = ⟨B,H ++ [.str k],S⟩ ∧ d' = ⟨putD B k p,H,S⟩:=by
 cases h
 exact ⟨_,_,_,_,rfl,rfl⟩
theorem Nx.noI {x : Str} {d d' : Told} (h : Nx (.no x) d d') : d' = ⟨d.book,d.heard,d.spoiled ++ [.str x]⟩:=by cases h;rfl
theorem Nx.nameI {x : Str} {d d' : Told} (h : Nx (.name x) d d') : d' = ⟨d.book,d.heard ++ [.str x],d.spoiled⟩:=by cases h;rfl
section
variable {prog : Program} {w : World} {T : Tab} {hb : Heap} {mg mb : Str → Option Value} {cl : Str → Option Value} {n : Nat} {A : Around} {s : Shared} {env : Env} {E : Value → Shared → Prop}
variable {hF : Heap} {O O₁ : Addr → Prop} {bk : Addr} {ρ : Vars} {H S : List PyData} {B : List (PyData × PyData)}
theorem accD_off {P : Addr → Prop} {h h' : Heap} (x : AccD prog w bk O h B) (k : KeepBut P h h') (hP : ∀ b,P b → O b) (nb : ¬ P bk) : AccD prog w bk O h' B :=
 accD_ok.frame O h h' B x (k.mono hP) fun o ho => by
  obtain ⟨o',ho',t⟩:=accD_ok.cls _ _ _ x
  cases ho.symm.trans ho'
  exact k.same nb ho t.not
theorem accD_keep {h h' : Heap} (x : AccD prog w bk O h B) (k : Keep h h') : AccD prog w bk O h' B:=accD_off (P:=fun ζ => False) x k.but (fun ζ z => z.elim) fun z => z
theorem heard_put (AO : ∀ k,AllOk prog w T hb mg mb cl k (evs T k)) (rm : Rm false hb 60 A) {k : Str} {d : PyData} (hf : ρ.lookup (Str.ofString "found") = some d) (hh : ρ.lookup (Str.ofString "heard") = some (.list (H ++ [.str k]))) (hs : ρ.lookup (Str.ofString "spoiled") = some (.list S)) (hl : H.length ≤ 100000) (hB : B.length ≤ 1000)
  (x : HB prog w hb hF O env A bk s.heap ρ) (ai : AccD prog w bk O s.heap B) (hO : O bk) (nS : ¬ Sl env bk) (hFb : hF.get? bk = none) {Q : Flow → Shared → Prop}
  (hQ : ∀ h' tk v,Keep hF h' → SJ prog w O h' bk v H S → AccD prog w bk O h' (putD B k d) → Q (.ret v) { s with heap:=h',toks:=tk }) :
  wpAny (model prog w) A (execs [nth heardF.body 3,nth heardF.body 4] env) Q E s:=by
 have e3 : nth heardF.body 3 = nth heardF.body 3:=rfl
 conv at e3 => rhs;whnf
 rw [e3]
 refine execs_cons (wpAny_Assign_Subscript (x.F.F.name hf (.inl (by kernel_rfl)) fun vf rf => x.vb.name x.F.F ((AO 60).bd.ex _ _ _ (.str k) ((show _ = (ρ.lookup (Str.ofString "heard")).bind fun d => getitem d (.int (-1)) by kernel_rfl).trans (by rw [hh];exact get_last H _ hl)) A s env hF O _ _ rm x.F x.K fun kv s₁ ps => ?_)) (by rfl))
 obtain ⟨h₁,tk₁,rfl,k1,rk⟩:=ps
 obtain ⟨t,rfl⟩:=rk.is
 have x₁:=x.keep k1
 refine dset_rule (s:={ s with heap:=h₁,toks:=tk₁ }) (accD_keep ai k1) hO (rf.keep k1) hB fun h₂ tk₂ ai₂ k2 => ?_
 obtain ⟨o₂,ho₂,_⟩:=accD_ok.cls _ _ _ ai₂
 have F₂:=x₁.F.chgD hO nS hFb k2 ⟨o₂,ho₂⟩
 obtain ⟨m,hm⟩:=x₁.F.ns
 have kp:=Kept.of_off (sc:=heardF.names) hm k2 nS
 have x₂ : HB prog w hb hF O env A bk h₂ ρ:=⟨F₂,x₁.K.off x₁.F.F k2 kp.lc (fun a z => .inr fun o ho => by
  obtain ⟨o',ho',t⟩:=accD_ok.cls _ _ _ (accD_keep ai k1)
  cases (z ▸ ho).symm.trans ho'
  exact t.not),kp.vk _ _ (by simp) x₁.vb⟩
 show wpAny _ _ (execs [nth heardF.body 4] env) _ _ _
 have e4 : nth heardF.body 4 = nth heardF.body 4:=rfl
 conv at e4 => rhs;whnf
 rw [e4]
 refine execs_cons (wpAny_Return_some (tuple3 rfl rfl rfl (x₂.vb.name (s:={ s with heap:=h₂,toks:=tk₂ }) x₂.F.F ((AO 60).bd.ex _ _ _ (.list H) ((show _ = (ρ.lookup (Str.ofString "heard")).bind fun d => slice d none (some (-1)) none by kernel_rfl).trans (by
   rw [hh]
   show (if (H ++ [PyData.str k]).length ≤ lim ∧ none ≠ some (0 : Int) then _ else none) = _
   rw [if_pos ⟨by rw [List.length_append];show _ + 1 ≤ 1048576;omega,nofun⟩,pick_last])) A _ env hF O _ _ rm x₂.F x₂.K fun vh s₃ ps => ?_))))
 obtain ⟨h₃,tk₃,rfl,k3,rh⟩:=ps
 have x₃:=x₂.keep k3
 refine x₃.F.F.name (s:={ s with heap:=h₃,toks:=tk₃ }) hs (.inl (by kernel_rfl)) fun vs rs t' h₄ ht' pt' k4 => ?_
 exact hQ h₄ tk₃ _ (x₃.F.F.keep.trans k4) ⟨t',_,_,rfl,x₃.F.F.old.not ht',pt',rh.keep k4,rs.keep k4⟩ (accD_keep (accD_keep ai₂ k3) k4)
set_option maxRecDepth 10000 in
set_option tactic.hygienic true in
theorem heard_rule (AO : ∀ k,AllOk prog w T hb mg mb cl k (evs T k)) {Cr Cp : Addr} (X : Xs prog w hb mg Cr Cp) (hne : Cr ≠ Cp) (hcr : cl (Str.ofString "error_reply") = some (.ref Cr)) (hcp : cl (Str.ofString "error_proto") = some (.ref Cp)) (FH : FnAt hb mg (Str.ofString "_law_heard") heardF) (rm : Rm false hb 70 A) (kb : Keep hb s.heap) (K : Stk hb A s.heap)
  (old : Old O s.heap) (onew : ∀ a,O a → hb.get? a = none) (hO : O bk) {reply : Str} {vx : Value} (rx : Rep prog w O s.heap vx (.str reply)) {e : Eff} (he : EffOk T reply e) {v : Value} {d d' : Told} (nx : Nx e d d') (J : SJ prog w O s.heap bk v d.heard d.spoiled) (ai : AccD prog w bk O s.heap d.book) (hd : d.book.length ≤ 1000 ∧ d.heard.length ≤ 1000 ∧ d.spoiled.length ≤ 1000) {Q : Value → Shared → Prop}
  (hQ : ∀ h' tk v',KeepBut (fun b => b ∈ [bk]) s.heap h' → SJ prog w O h' bk v' d'.heard d'.spoiled → AccD prog w bk O h' d'.book → Q v' { s with heap:=h',toks:=tk }) :
  ∃ a,mg (Str.ofString "_law_heard") = some (.ref a) ∧ (∃ o fd,hb.get? a = some o ∧ o.cls ≠ .type "frame" ∧ o.data = .func fd) ∧ wpAny (model prog w) A (call (.ref a) [v,vx]) Q E s:=by
 have hpar : heardF.params = [Str.ofString "state",Str.ofString "reply"]:=rfl
 have hbody : heardF.body = [nth heardF.body 0,nth heardF.body 1,nth heardF.body 2,nth heardF.body 3,nth heardF.body 4]:=rfl
 obtain ⟨a,ha,hd',call⟩:=fn_rule (prog:=prog) (w:=w) (R:=fun r s' => match r with | .ok (.ret v) => Q v s' | .ok _ => False | .error e => E e s') (O:=O) (ρ:=[(Str.ofString "reply",.str reply)]) FH (AO 0).bd.G.lim (rm.le (show 61 ≤ 70 by omega)) kb old onew (vs:=[v,vx]) (by rw [hpar];rfl)
  (fun y dd e1 => by
   rw [lookup_cons_eq] at e1
   split at e1
   ·rename_i hy;obtain rfl:=Option.some.inj e1
    exact ⟨vx,by rw [hpar,hy];simp,rx⟩
   ·cases e1) (fun env O₁ h₁ tk₁ ent => by
   have rm' : Rm false hb 60 (A.deeper env):=rm.le (show 61 ≤ 70 by omega) |>.deeper env
   have K₁:=ent.stk K
   obtain ⟨l,hl,_⟩:=id K
   have hfr : (A.deeper env).frames = some (env :: l):=by show A.frames.map _ = _;rw [hl];rfl
   have sv:=ent.vars (Str.ofString "state") v (by rw [hpar];simp)
   have kE : Keep s.heap h₁:=ent.keep
   have hbk : hb.get? bk = none:=onew bk hO
   have kM : Keep (mask s.heap [bk]) s.heap:=mask_keep
   have kbM : Keep hb (mask s.heap [bk]):=fun b o e => by
    obtain ⟨o',e',al⟩:=kb b o e
    exact ⟨o',(mask_other fun hm => by rw [sMp hm,hbk] at e;cases e).trans e',al⟩
   have F₁ : Fx prog w hb heardF.names (mask s.heap [bk]) O₁ h₁ env [(Str.ofString "reply",.str reply)]:=⟨FrI.older ent.F.F kM,kbM,ent.F.onew⟩
   have hFb : (mask s.heap [bk]).get? bk = none:=mask_in List.mem_cons_self
   have nS : ¬ Sl env bk:=fun z => by
    obtain ⟨ents,xs,_,⟨o,es,n,ho,_,hdt,_⟩,_⟩:=id ai
    rcases z with rfl | ⟨x,hx⟩
    ·exact nomatch (ent.F.F.oloc.2).symm.trans ho
    ·obtain ⟨ov,o₂,ho₂,hd₂⟩:=ent.F.F.allc x bk hx
     obtain ⟨o₃,ho₃,al⟩:=kE bk o ho
     cases ho₂.symm.trans ho₃
     exact nomatch hdt.symm.trans (al.data.symm.trans hd₂)
   have J₁ : SJ prog w O₁ h₁ bk v d.heard d.spoiled:=(J.more ent.new).keep kE
   have ai₁ : AccD prog w bk O₁ h₁ d.book:=accD_keep (accD_ok.grow O O₁ _ _ ai fun a z => (ent.new a z).imp_right .inl) kE
   have out : ∀ {h' : Heap} {v' : Value} {H S : List PyData},SJ prog w O₁ h' bk v' H S → SJ prog w O h' bk v' H S:=fun x => x.more fun a z => .inl (ent.sub a z)
   have outA : ∀ {h' : Heap} {B : List (PyData × PyData)},AccD prog w bk O₁ h' B → AccD prog w bk O h' B:=fun x => accD_ok.grow _ _ _ _ x fun a z => .inl (ent.sub a z)
   rw [hbody]
   refine execs_cons (heard_open (s:={ s with heap:=h₁,toks:=tk₁ }) rm' F₁ K₁ (by rw [lookup_cons_eq,if_neg (by rw [ofString_iff];decide)];rfl) sv J₁ fun h₂ tk₂ x₂ k2 => ?_)
   have ai₂ : AccD prog w bk O₁ h₂ d.book:=accD_off ai₁ k2 (fun b z => F₁.F.slot z) nS
   generalize hρ : setV (setV [(Str.ofString "reply",PyData.str reply)] (Str.ofString "heard") (.list d.heard)) (Str.ofString "spoiled") (.list d.spoiled) = ρ at x₂
   have l1 : ρ.lookup (Str.ofString "reply") = some (.str reply):=by rw [← hρ];kernel_rfl
   have l2 : ρ.lookup (Str.ofString "heard") = some (.list d.heard):=by rw [← hρ];kernel_rfl
   have l3 : ρ.lookup (Str.ofString "spoiled") = some (.list d.spoiled):=by rw [← hρ];kernel_rfl
   have l4 : ρ.lookup (Str.ofString "error") = none:=by rw [← hρ];kernel_rfl
   have l5 : ∀ {z : Str} {x : PyData},ρ.lookup z = some x → z ≠ Str.ofString "words" → ∀ y,(setV ρ (Str.ofString "words") y).lookup z = some x:=fun h hn y => by rw [setV_lookup,if_neg hn];exact h
   clear hρ
   have hl1 : d.heard.length ≤ 100000:=by omega
   have hl2 : d.spoiled.length ≤ 100000:=by omega
   have nw : ∀ {a b : String},a ≠ b → Str.ofString a ≠ Str.ofString b:=fun h => by rw [ne_eq,ofString_iff];exact h
   have more : ∀ {x : Str} {res : Except Ex PyData},(evs T 60).fn (Str.ofString "parse257") [.str reply] = some (.error ⟨Str.ofString "error_reply",x⟩) → (evs T 60).fn (Str.ofString "parse229") [.str x,peerT] = some res →
     ((∃ p,res = .ok p) ∨ (∃ z,res = .error ⟨Str.ofString "error_reply",z⟩ ∧ z.length ≤ 1000) ∨ ∃ z,res = .error ⟨Str.ofString "error_proto",z⟩) → (∀ p,res = .ok p → Nx (.port p) d d') → (∀ z,(res = .error ⟨Str.ofString "error_proto",z⟩ ∨ ∃ z',res = .error ⟨Str.ofString "error_reply",z'⟩ ∧ z = Str.ofString "no " ++ z') → Nx (.no z) d d') →
     ∀ (Qf : Flow → Shared → Prop) (Ef : Value → Shared → Prop),(∀ v' h' tk,Q v' { s with heap:=h',toks:=tk } → Qf (.ret v') { s with heap:=h',toks:=tk }) →
     wpAny (model prog w) (A.deeper env) (execs [nth heardF.body 1,nth heardF.body 2,nth heardF.body 3,nth heardF.body 4] env) Qf Ef { s with heap:=h₂,toks:=tk₂ }:=by
    intro x res h257 h229 hres hp hn Qf Ef hq
    refine execs_cons (heard_try1no (s:={ s with heap:=h₂,toks:=tk₂ }) AO X hcr rm' hfr ent.frame h257 l1 l2 l3 l4 hl1 x₂ fun h₃ tk₃ x₃ k3 => ?_)
    have ai₃ : AccD prog w bk O₁ h₃ d.book:=accD_off ai₂ k3 (fun b z => z.1.1) fun z => nS z.2
    refine execs_cons (heard_try2 (s:={ s with heap:=h₃,toks:=tk₃ }) AO X hne hcr hcp rm' hfr ent.frame h229 (by rw [setV_lookup,if_pos rfl]) (l5 l2 (nw (by decide)) _) (l5 l3 (nw (by decide)) _) (by rw [setV_lookup,if_neg (nw (by decide))];exact l4) hres x₃ hl2 (fun p hp' h₄ tk₄ x₄ k4 => ?_) fun z hz h₄ tk₄ v' k4 sj => ?_)
    ·have ai₄ : AccD prog w bk O₁ h₄ d.book:=accD_off ai₃ k4 (fun b z => z.1.1) fun z => nS z.2
     obtain ⟨B,H,k,S,e1,e2⟩:=(hp p hp').portI
     show wpAny _ _ (execs [nth heardF.body 3,nth heardF.body 4] env) _ _ _
     have lw : ∀ {z : Str} {u : PyData},ρ.lookup z = some u → z ≠ Str.ofString "words" → z ≠ Str.ofString "found" → (setV (setV ρ (Str.ofString "words") (.str x)) (Str.ofString "found") p).lookup z = some u:=fun h h1 h2 => by rw [setV_lookup,if_neg h2];exact l5 h h1 _
     subst e1
     refine heard_put (s:={ s with heap:=h₄,toks:=tk₄ }) AO rm' (by rw [setV_lookup,if_pos rfl]) (lw l2 (nw (by decide)) (nw (by decide))) (lw l3 (nw (by decide)) (nw (by decide))) ?_ hd.1 x₄ ai₄ (ent.sub bk hO) nS hFb fun h₅ tk₅ v' k5 sj ai₅ => hq _ _ _ (hQ h₅ tk₅ v' (keep_unmask k5) ?_ ?_)
     ·rw [List.length_append] at hl1
      exact Nat.le_trans (Nat.le_add_right _ _) hl1
     ·rw [e2];exact out sj
     ·rw [e2];exact outA ai₅
    ·have ai₄ : AccD prog w bk O₁ h₄ d.book:=accD_off ai₃ k4 (fun b z => z.1.1) fun z => nS z.2
     have e2:=(hn z hz).noI
     refine hq _ _ _ (hQ h₄ tk₄ v' (keep_unmask (x₃.F.F.keep.of_own k4.of_ownS)) ?_ ?_)
     ·rw [e2];exact out sj
     ·rw [e2];exact outA ai₄
   cases he with
   | name x h257 =>
    have e2:=nx.nameI
    have eB : svB (nth heardF.body 1) = [nth (svB (nth heardF.body 1)) 0]:=rfl
    refine execs_cons ?_
    have eS : nth heardF.body 1 = nth heardF.body 1:=rfl
    conv at eS => rhs;whnf
    rw [eS]
    refine wpAny_Try_except ?_
    show wpAny _ _ (execs (svB (nth heardF.body 1)) env) _ _ _
    rw [eB]
    refine execs_cons (heard_257 (s:={ s with heap:=h₂,toks:=tk₂ }) AO rm' h257 l1 l2 l3 x₂ hl1 (fun p e h₃ tk₃ v' k3 sj => ?_) (fun y e => by cases e))
    cases e
    refine hQ h₃ tk₃ v' (keep_unmask (x₂.F.F.keep.trans k3)) ?_ ?_
    ·rw [e2];exact out sj
    ·rw [e2];exact outA (accD_keep ai₂ k3)
   | port x p h257 h229 => exact more h257 h229 (.inl ⟨p,rfl⟩) (fun p' e => by cases e;exact nx) (fun z e => e.elim (fun e => nomatch e) fun ⟨_,e,_⟩ => nomatch e) _ _ (fun ζ ζ ζ q => q)
   | noR x y h257 h229 hy =>
    refine more h257 h229 (.inr (.inl ⟨y,rfl,hy⟩)) (fun p' e => nomatch e) (fun z e => ?_) _ _ (fun ζ ζ ζ q => q)
    rcases e with e | ⟨z',e,e'⟩
    ·cases e
    ·cases e;rw [e'];exact nx
   | noP x y h257 h229 =>
    refine more h257 h229 (.inr (.inr ⟨y,rfl⟩)) (fun p' e => nomatch e) (fun z e => ?_) _ _ (fun ζ ζ ζ q => q)
    rcases e with e | ⟨z',e,_⟩
    ·cases e;exact nx
    ·cases e)
 exact ⟨a,ha,hd',wpAny_call call⟩
end
end
section
variable [bs : Base]
noncomputable def Tiny (d : Told) : Prop:=d.book.length ≤ 1000 ∧ d.heard.length ≤ 1000 ∧ d.spoiled.length ≤ 1000
inductive Talks (T : Tab) : List Str → Told → Told → Prop
 | nil (d) : Talks T [] d d
 | cons {y : Str} {e : Eff} {rs : List Str} {d d' d'' : Told} : EffOk T y e → Nx e d d' → Tiny d → Talks T rs d' d'' → Talks T (y :: rs) d d''
theorem Talks.states {T : Tab} {rs : List Str} {d d' : Told} (t : Talks T rs d d') : ∃ ts : Nat → Told,ts 0 = d ∧ ts rs.length = d' ∧ ∀ i (h : i < rs.length),∃ e,EffOk T rs[i] e ∧ Nx e (ts i) (ts (i + 1)) ∧ Tiny (ts i):=by
 induction t with
 | nil d => exact ⟨fun ζ => d,rfl,rfl,fun i h => absurd h (Nat.not_lt_zero _)⟩
 | @cons y e rs d d' d'' he nx ti _ ih =>
  obtain ⟨ts,h0,hn,hs⟩:=ih
  refine ⟨fun i => match i with | 0 => d | i + 1 => ts i,rfl,hn,fun i h => ?_⟩
  cases i with
  | zero => exact ⟨e,he,(show Nx e d (ts 0) by rw [h0];exact nx),ti⟩
  | succ i => exact hs i (Nat.lt_of_succ_lt_succ h)
section
variable {prog : Program} {w : World} {T : Tab} {hb : Heap} {mg mb : Str → Option Value} {cl : Str → Option Value} {n : Nat} {A : Around} {s : Shared} {env : Env} {E : Value → Shared → Prop}
variable {hF : Heap} {O O₁ : Addr → Prop} {bk : Addr} {ρ : Vars} {sc : Names} {ts : Nat → Told}
noncomputable def JT (prog : Program) (w : World) (bk : Addr) (ts : Nat → Told) (O : Addr → Prop) (i : Nat) (v : Value) (h : Heap) : Prop:=SJ prog w O h bk v (ts i).heard (ts i).spoiled ∧ AccD prog w bk O h (ts i).book
theorem jt_acc : Acc [bk] (JT prog w bk ts) where
 off:=fun x k hB => ⟨x.1.keepBut (k.mono fun b z => (hB b z).1),accD_off x.2 k (fun b z => (hB b z).1) fun z => (hB bk z).2 List.mem_cons_self⟩
 into:=fun x k => ⟨x.1.more k,accD_ok.grow _ _ _ _ x.2 fun a z => (k a z).imp_right .inl⟩
 ds:=fun x b hb => by
  obtain ⟨o,ho,t⟩:=accD_ok.cls _ _ _ x.2
  cases sMp hb
  exact ⟨o,ho,t.not⟩
theorem heard_step (G : GroundA prog w hb mg mb) {rs : List Str} {hF : Heap} (hs : ∀ i (h : i < rs.length),∃ e,EffOk TA rs[i] e ∧ Nx e (ts i) (ts (i + 1)) ∧ Tiny (ts i)) : StepOk prog w hb hF [bk] (JT prog w bk ts) (rs.map PyData.str) 145:=by
 intro i d hd A s O v vx Q E rm kb _ K old onew hO J rx hQ
 rw [List.getElem?_map] at hd
 obtain ⟨y,hy,rfl⟩:=oMp hd
 obtain ⟨hi,rfl⟩:=List.getElem?_eq_some_iff.mp hy
 obtain ⟨e,he,nx,ti⟩:=hs i hi
 obtain ⟨a,ha,_,w'⟩:=heard_rule (E:=E) G.AO G.X (by decide) G.hcr G.hcp G.FH (rm.le (by omega)) kb K old onew (hO bk List.mem_cons_self) rx he nx J.1 J.2 ti fun h' tk v' k sj ai => hQ h' tk v' k ⟨sj,ai⟩
 cases G.hfa.symm.trans ha
 exact w'
noncomputable def toldT (d : Told) : PyData:=.tuple [.dict d.book,.list d.heard,.list d.spoiled]
set_option maxRecDepth 10000 in
theorem told_call (G : GroundA prog w hb mg mb) (rm : Rm false hb 100 A) {rs : List Str} {d : Told} (F : Fx prog w hb sc hF O s.heap env ρ) (K : Stk hb A s.heap) (g1 : sc.lookup (Str.ofString "reduce") = some .globalImplicit) (g2 : sc.lookup (Str.ofString "_law_heard") = some .globalImplicit) {e1 : Expr} {p1 p2 p3 p4 p5 p6 p7 : Pos} {k : Nat} (s1 : isStar e1 = false)
  (h1 : (evs TA 100).ex sc ρ e1 = some (.list (rs.map PyData.str))) (tl : Talks TA rs ⟨[],[],[]⟩ d) {Q : Value → Shared → Prop}
  (hQ : ∀ v s',Post prog w O s s' v (toldT d) → Q v s') :
  wpAny (model prog w) A (eval (.Call (.Name (Str.ofString "reduce") p1) [.Name (Str.ofString "_law_heard") p2,e1,.Tuple [.Dict [] [] p4,.List [] p5,.List [] p6] k p7] [] p3) env) Q E s:=by
 obtain ⟨ts,t0,tn,hs⟩:=tl.states
 obtain ⟨mo,hm1,hm2⟩:=G.hmo
 obtain ⟨ar,oR,fdR,har,hor,hcr,hdr,_⟩:=G.FR.there
 obtain ⟨fa,oH,fdH,hfa,hoh,hch,hdh,_⟩:=G.FH.there
 cases G.hfa.symm.trans hfa
 refine wpAny_Call_Name_kw (nameG_ok (G.AO 0).bd.G F g1 har ?_)
 rw [starEach_cons rfl,starEach_cons s1,starEach_cons rfl,backTo_cons,backTo_cons,backTo_cons]
 refine Calls.callWith_function (o:=oR) (fd:=fdR) (Calls.evalArgs_plain (Calls.spliced_cons (nameG_ok (G.AO 0).bd.G F g2 G.hfa (Calls.spliced_cons ((G.AO 100).bd.ex _ _ _ _ h1 A s env hF O _ _ rm F K fun v1 s₁ ps => ?_)))))
 obtain ⟨h₁,tk₁,rfl,k1,r1⟩:=ps
 have F₁:=F.keeps k1
 refine Calls.spliced_cons (tuple3 rfl rfl rfl ?_)
 rw [eval_Dict_empty]
 refine wpAny_bind (wpAny_standAt (wpAny_newObj_type (s:={ s with heap:=h₁,toks:=tk₁ }) ?_))
 generalize hbk : ({ s with heap:=h₁,toks:=tk₁ } : Shared).heap.objs.size = bk
 have hbk : h₁.objs.size = bk:=hbk
 have nbk : h₁.get? bk = none:=by rw [← hbk];exact fresh_size _
 have dd : (h₁.push { cls:=.type "dict",data:=.dict #[] }).DictOf (strKind prog w) bk []:=by rw [← hbk];exact Heap.DictOf.new h₁
 have k2 : Keep h₁ (h₁.push { cls:=.type "dict",data:=.dict #[] }):=Keep.push _ _
 generalize h₁.push { cls:=.type "dict",data:=.dict #[] } = h₂ at dd k2
 obtain ⟨ob,_,_,hob,hcb,hdb,_⟩:=id dd
 have F₂ : Fx prog w hb sc hF (fun a => O a ∨ a = bk) h₂ env ρ:=F₁.grow k2 (fun ζ z => .inl z) (fun a z => z.imp_right fun (q : a = bk) => q ▸ nbk) fun a z => z.elim (F₁.F.old.keep k2 a) fun q => q ▸ ⟨_,hob⟩
 have K₂:=(K.keep k1).keep k2
 refine (G.AO 100).bd.ex _ _ _ (.list []) (by kernel_rfl) A { s with heap:=h₂,toks:=tk₁ } env hF _ _ _ rm F₂ K₂ fun vh s₃ ps => ?_
 obtain ⟨h₃,tk₃,rfl,k3,rh⟩:=ps
 refine (G.AO 100).bd.ex _ _ _ (.list []) (by kernel_rfl) A { s with heap:=h₃,toks:=tk₃ } env hF _ _ _ rm (F₂.keeps k3) (K₂.keep k3) fun vs s₄ ps => ?_
 obtain ⟨h₄,tk₄,rfl,k4,rs'⟩:=ps
 intro t' h₅ ht' pt' k5
 have k24:=(k3.trans k4)
 have k25:=k24.trans k5
 have k15:=k2.trans k25
 have old5 : Old (fun a => O a ∨ a = bk) h₅:=F₂.F.old.keep k25
 have nt : ¬ (O t' ∨ t' = bk):=(F₂.F.old.keep k24).not ht'
 have r1' : Rep prog w (fun a => O a ∨ a = bk) h₅ v1 (.list (rs.map PyData.str)):=(r1.more fun a z => z.imp_right fun (q : a = bk) => q ▸ nbk).keep k15
 obtain ⟨la,us,rfl,nla,pl,rl⟩:=r1'.is
 have base5 : Keep hb h₅:=(F.base.trans k1).trans k15
 have ob5:=k25.same hob (by rw [hcb.1];exact nofun)
 have fin : ∀ h₆ tk₆ v₆,KeepBut (fun b => b ∈ [bk]) h₅ h₆ → JT prog w bk ts (fun a => O a ∨ a = bk) (rs.map PyData.str).length v₆ h₆ → Q v₆ { s with heap:=h₆,toks:=tk₆ }:=by
  intro h₆ tk₆ v₆ k6 J6
  rw [List.length_map] at J6
  obtain ⟨⟨t,vh',vs',rfl,nt',pt6,rh6,rs6⟩,ents,xs,eB,dd6,rx6⟩:=J6
  rw [tn] at rh6 rs6 eB
  refine hQ _ _ ⟨h₆,tk₆,rfl,?_,.tuple (fun z => nt' (.inl z)) pt6 (.cons ?_ (.cons (rh6.less fun ζ z => .inl z) (.cons (rs6.less fun ζ z => .inl z) .nil)))⟩
  ·refine keep_chg (k1.trans k15) (fun b hb => ?_) k6
   exact sMp hb ▸ k1.none nbk
  ·rw [eB]
   exact .dict (F₁.F.old.not nbk) (fun q => by obtain ⟨o,ho⟩:=(G.AO 0).bd.G.sm;obtain ⟨o',ho',_⟩:=F₁.base _ o ho;rw [← q,nbk] at ho';cases ho') dd6 (rx6.less fun ζ z => .inl z)
 obtain ⟨ar',har',_,call⟩:=reduce_rule (E:=E) (A:=A) (s:={ s with heap:=h₅,toks:=tk₄ }) (Ds:=[bk]) (J:=JT prog w bk ts) (O:=fun a => O a ∨ a = bk) jt_acc (G.AO 0).bd.G G.FR G.hma hm1 hm2 (rm.le (by omega)) base5 (((K₂.keep k3).keep k4).keep k5) old5 F₂.onew (fun b hb => .inr (sMp hb)) (fun b hb => sMp hb ▸ ⟨ob,_,_,ob5,hdb⟩)
  (fa:=145) (base5.same hoh hch) hch hdh (fun hm => by
   have:=F₂.onew bk (.inr rfl)
   rw [← sMp hm] at this
   exact nomatch this.symm.trans hoh) nla pl rl (t:=t') pt'.choose_spec (fun q => by
   have:=k24.none ht'
   have h0:=((F.base.trans k1).trans k2).same hm1 hm2.2
   subst q
   exact nomatch this.symm.trans h0) ⟨by rw [t0];exact ⟨t',_,_,rfl,nt,pt',rh.keep (k4.trans k5),rs'.keep k5⟩,by rw [t0];exact accD_keep ⟨[],[],rfl,dd,.nil⟩ k25⟩ (heard_step G hs) fin
 ·cases har.symm.trans har'
  exact Calls.spliced_nil ⟨⟨base5.same hor hcr,hdr⟩,call⟩
end
end
section
variable [bs : Base]
noncomputable def lv (e : Expr) : Arguments × Expr × Scope:=if h : e.ctorIdx = 4 then Expr.Lambda.elim (motive_1:=fun ζ => Arguments × Expr × Scope) e h fun a b s ζ => (a,b,s) else (default,default,default)
noncomputable def lamV : Arguments × Expr × Scope:=lv (argE 0 (svE (LB 17)))
noncomputable def lamF : Fn:=⟨[Str.ofString "made",Str.ofString "row"],[],lamV.2.2.names,none⟩
theorem lam_bind (qual : Str) (pm cdv ct x y : Value) : bindArgs (kla_fn (Str.ofString "<lambda>") qual lamV.1 lamV.2.1 lamV.2.2 [] pm cdv ct) ⟨[x,y],[]⟩ = pure (lamF.params.zip [x,y]):=by kernel_rfl
noncomputable def nm (k : Nat) : Str:=((["a\"b","","z","\""].map Str.ofString)[k]?).getD Str.empty
noncomputable def rowP (p : Nat × Nat) : PyData:=.list [.str (nm p.1),.str (nm p.2)]
noncomputable def wayP (w : List (Nat × Nat)) : PyData:=.list (w.map rowP)
noncomputable def waysP (ws : List (List (Nat × Nat))) : PyData:=.list (ws.map wayP)
noncomputable def stepW (made : List (List (Nat × Nat))) (p : Nat × Nat) : List (List (Nat × Nat)):=made.flatMap fun w => [w ++ [p],w ++ [p.swap]]
theorem lam_ex (ms : List (List (Nat × Nat))) (p : Nat × Nat) (h1 : ms.length ≤ 1000) (h2 : ∀ w ∈ ms,w.length ≤ 1000) : (evs TA 20).ex lamF.names (lamF.params.zip [waysP ms,rowP p]) lamV.2.1 = some (waysP (stepW ms p)):=by
 have hf : ms.filter (fun ζ => true) = ms:=List.filter_eq_self.mpr fun ζ ζ => rfl
 refine (compNN (T:=TA) (n:=19) (xs:=ms) (sc:=lamF.names) (ρ:=lamF.params.zip [waysP ms,rowP p]) (E:=lamV.2.1) (Str.ofString "way") (Str.ofString "turned") wayP (fun ζ => true) (fun ζ => [p,p.swap]) rowP (fun ζ ζ => true) (fun x z => wayP (x ++ [z])) ⟨_,rfl⟩ (by kernel_rfl) ⟨by kernel_rfl,by kernel_rfl,by kernel_rfl,by rw [ne_eq,ofString_iff];decide⟩ (by kernel_rfl) ?_ fun x hx => ⟨by kernel_rfl,fun ζ => ⟨by kernel_rfl,fun z hz => ⟨by kernel_rfl,fun ζ => ?_⟩⟩⟩).trans ?_
 ·rw [hf]
  have : ∀ l : List (List (Nat × Nat)),(l.flatMap fun x => (([p,p.swap] : List (Nat × Nat)).filter fun ζ => true).map fun z => wayP (x ++ [z])).length = l.length * 2:=fun l => by
   induction l with
   | nil => rfl
   | cons x l ih => rw [List.flatMap_cons,List.length_append,ih,List.length_cons,Nat.succ_mul,Nat.add_comm];rfl
  rw [this]
  omega
 ·refine (show _ = binop .Add (wayP x) (.list [rowP z]) by kernel_rfl).trans ((bo_addl (xs:=x.map rowP) ?_).trans ?_)
  ·rw [List.length_map]
   exact Nat.le_trans (Nat.succ_le_succ (h2 x hx)) (by decide)
  ·unfold wayP
   rw [List.map_append];rfl
 ·unfold waysP stepW
  rw [hf]
  congr 2
  rw [List.map_flatMap]
  rfl
end
section
variable [bs : Base]
theorem stepW_len (ms : List (List (Nat × Nat))) (p : Nat × Nat) : (stepW ms p).length = ms.length * 2:=by
 unfold stepW
 induction ms with
 | nil => rfl
 | cons w ms ih =>
  rw [List.flatMap_cons,List.length_append,ih]
  simp only [List.length_cons,List.length_nil]
  omega
theorem stepW_in {ms : List (List (Nat × Nat))} {p : Nat × Nat} {k : Nat} (h : ∀ w ∈ ms,w.length ≤ k) : ∀ w ∈ stepW ms p,w.length ≤ k + 1:=fun w hw => by
 obtain ⟨u,hu,hw⟩:=List.mem_flatMap.mp hw
 have:=h u hu
 simp only [List.mem_cons,List.not_mem_nil,or_false] at hw
 rcases hw with rfl | rfl <;> (rw [List.length_append];exact Nat.succ_le_succ this)
theorem steps_len : ∀ (ps : List (Nat × Nat)) (ms : List (List (Nat × Nat))) (k : Nat),(∀ w ∈ ms,w.length ≤ k) → (ps.foldl stepW ms).length = ms.length * 2 ^ ps.length ∧ ∀ w ∈ ps.foldl stepW ms,w.length ≤ k + ps.length
 | [],ms,k,h => ⟨(Nat.mul_one _).symm,h⟩
 | p :: ps,ms,k,h => by
  obtain ⟨h1,h2⟩:=steps_len ps (stepW ms p) (k + 1) (stepW_in h)
  refine ⟨?_,fun w hw => by have:=h2 w hw;rw [List.length_cons];omega⟩
  rw [List.foldl_cons,h1,stepW_len,List.length_cons,Nat.pow_succ,Nat.mul_assoc,Nat.mul_comm 2]
section
variable {prog : Program} {w : World} {hb : Heap} {mg mb : Str → Option Value} {n : Nat} {A : Around} {s : Shared} {env : Env} {E : Value → Shared → Prop}
variable {hF : Heap} {O : Addr → Prop} {ρ : Vars} {sc : Names}
theorem Fx.offTab {h h' : Heap} {ps : Array Value} (F : Fx prog w hb sc hF O h env ρ) (hP : h.get? 176 = some (tabObj ps)) (k : KeepBut (· = 176) h h') (hn : hF.get? 176 = none) (nS : ¬ Sl env 176) (he : ∃ o,h'.get? 176 = some o) : Fx prog w hb sc hF O h' env ρ :=
 ⟨F.F.go (fun a o z e => k a o (fun q => nS (q ▸ z)) e) (fun ζ z => F.F.slot z) (fun x v d ζ r => r.map fun a o no t e => ⟨no,k.same (fun q => by
   subst q
   cases hP.symm.trans e
   rcases t with t | t | t <;> cases t) e t.not⟩) (keep_chg F.F.keep (fun b (q : b = 176) => q ▸ hn) k) (fun a z => by
   by_cases q : a = 176
   ·exact q ▸ he
   ·obtain ⟨o,ho⟩:=F.F.old a z
    obtain ⟨o',ho',_⟩:=k a o q ho
    exact ⟨o',ho'⟩),F.kb,F.onew⟩
theorem Stk.offTab {h h' : Heap} {ps : Array Value} (K : Stk hb A h) (hP : h.get? 176 = some (tabObj ps)) (k : KeepBut (· = 176) h h') : Stk hb A h' :=
 K.chg k fun a z o es ep ho hc hd => by
  subst z
  cases hP.symm.trans ho
  cases hc
noncomputable def JW (prog : Program) (w : World) (ms : Nat → List (List (Nat × Nat))) (O : Addr → Prop) (i : Nat) (v : Value) (h : Heap) : Prop:=Rep prog w O h v (waysP (ms i))
theorem jw_acc {ms : Nat → List (List (Nat × Nat))} : Acc [] (JW prog w ms) where
 off:=fun x k hB => Rep.keepBut x (k.mono fun b z => (hB b z).1)
 into:=fun x k => Rep.more x k
 ds:=fun ζ ζ hb => nomatch hb
noncomputable def waysAt (cs : List (Nat × Nat)) (i : Nat) : List (List (Nat × Nat)):=(cs.tail.take i).foldl stepW [cs.take 1]
theorem waysAt_ok (cs : List (Nat × Nat)) (i : Nat) (h : cs.length ≤ 5) : (waysAt cs i).length ≤ 1000 ∧ ∀ w ∈ waysAt cs i,w.length ≤ 1000:=by
 have h0 : ∀ w ∈ [cs.take 1],w.length ≤ 1:=fun w hw => by rw [sMp hw,List.length_take];exact Nat.min_le_left _ _
 obtain ⟨h1,h2⟩:=steps_len (cs.tail.take i) [cs.take 1] 1 h0
 have hl : (cs.tail.take i).length ≤ 5:=Nat.le_trans (List.length_take_le' ..) (by rw [List.length_tail];omega)
 refine ⟨?_,fun w hw => ?_⟩
 ·unfold waysAt
  rw [h1]
  have : 2 ^ (cs.tail.take i).length ≤ 2 ^ 5:=Nat.pow_le_pow_right (by decide) hl
  simp only [List.length_cons,List.length_nil]
  omega
 ·have:=h2 w hw
  omega
theorem waysAt_succ (cs : List (Nat × Nat)) (i : Nat) (h : i < cs.tail.length) : waysAt cs (i + 1) = stepW (waysAt cs i) cs.tail[i]:=by
 unfold waysAt
 rw [List.take_succ_eq_append_getElem h,List.foldl_append]
 rfl
theorem lam_step (G : GroundA prog w hb mg mb) {cs : List (Nat × Nat)} (hc : cs.length ≤ 5) {f : Addr} {qual : Str} {pm cdv ct : Value} {h₁ : Heap} (hf : h₁.get? f = some { cls:=.type "function",data:=.func (kla_fn (Str.ofString "<lambda>") qual lamV.1 lamV.2.1 lamV.2.2 [] pm cdv ct) }) (hrec : h₁.CodeRec cdv qual) :
  StepOk prog w hb h₁ [] (JW prog w (waysAt cs)) (cs.tail.map rowP) f:=by
 intro i d hd A s O v vx Q E rm kb kF K old onew _ J rx hQ
 rw [List.getElem?_map] at hd
 obtain ⟨p,hp,rfl⟩:=oMp hd
 obtain ⟨hi,rfl⟩:=List.getElem?_eq_some_iff.mp hp
 obtain ⟨b1,b2⟩:=waysAt_ok cs i hc
 refine lam_call (n:=20) (F:=lamF) (ds:=[waysP (waysAt cs i),rowP cs.tail[i]]) G rfl (by kernel_rfl) (by kernel_rfl) (by kernel_rfl) (by kernel_rfl) (lam_bind qual pm cdv ct v vx) (kF.same hf (show Value.type "function" ≠ Value.type "frame" by decide)) (codeRec_keepK hrec kF) (rm.le (by decide)) kb K old onew (.cons J (.cons rx .nil)) (lam_ex _ _ b1 b2) fun v' s' ps => ?_
 obtain ⟨h',tk,rfl,k',rv⟩:=ps
 refine hQ h' tk v' k'.but ?_
 unfold JW
 rw [waysAt_succ cs i hi]
 exact rv
end
end
section
variable [bs : Base]
theorem waysAt_all (cs : List (Nat × Nat)) : waysAt cs cs.tail.length = waysN cs:=by
 unfold waysAt
 rw [List.take_length]
 rfl
section
variable {prog : Program} {w : World} {hb : Heap} {mg mb : Str → Option Value} {n : Nat} {A : Around} {s : Shared} {env : Env} {E : Value → Shared → Prop}
variable {hF : Heap} {O : Addr → Prop} {ρ : Vars} {sc : Names}
set_option maxRecDepth 10000 in
theorem ways_call (G : GroundA prog w hb mg mb) (rm : Rm false hb 100 A) (F : Fx prog w hb sc hF O s.heap env ρ) (K : Stk hb A s.heap) (g1 : sc.lookup (Str.ofString "reduce") = some .globalImplicit) (hcode : env.code = .ref 178) (hC : CodeHd s.heap 178 176) (hP : s.heap.get? 176 = some (tabObj #[])) (hn : hF.get? 176 = none) (nS : ¬ Sl env 176)
  (hcl : closureFor lamV.2.2 env = pure []) {e1 e2 : Expr} {p1 p2 p3 : Pos} (s1 : isStar e1 = false) (s2 : isStar e2 = false) {cs : List (Nat × Nat)} (hc : cs.length ≤ 5) (h1 : (evs TA 100).ex sc ρ e1 = some (.list (cs.tail.map rowP))) (h2 : (evs TA 100).ex sc ρ e2 = some (waysP [cs.take 1])) {Q : Value → Shared → Prop}
  (hQ : ∀ v h' tk ps,Rep prog w O h' v (waysP (waysN cs)) → KeepBut (· = 176) s.heap h' → h'.get? 176 = some (tabObj ps) → Q v { s with heap:=h',toks:=tk }) :
  wpAny (model prog w) A (eval (.Call (.Name (Str.ofString "reduce") p1) [.Lambda lamV.1 lamV.2.1 lamV.2.2 p2,e1,e2] [] p3) env) Q E s:=by
 obtain ⟨mo,hm1,hm2⟩:=G.hmo
 obtain ⟨ar,oR,fdR,har,hor,hcr,hdr,_⟩:=G.FR.there
 refine wpAny_Call_Name_kw (nameG_ok (G.AO 0).bd.G F g1 har ?_)
 rw [starEach_cons rfl,starEach_cons s1,starEach_cons s2,backTo_cons,backTo_cons,backTo_cons]
 refine Calls.callWith_function (o:=oR) (fd:=fdR) (Calls.evalArgs_plain (Calls.spliced_cons (lam_make G F hcode hC hP hcl (by kernel_rfl) fun f qual pm cdv ct ps h₁ tk₁ k0 tb hfn hf6 hf hrec => ?_)))
 have F₁:=F.offTab hP k0 hn nS ⟨_,tb⟩
 have K₁:=K.offTab hP k0
 refine Calls.spliced_cons ((G.AO 100).bd.ex _ _ _ _ h1 A { s with heap:=h₁,toks:=tk₁ } env hF O _ _ rm F₁ K₁ fun v1 s₂ ps' => ?_)
 obtain ⟨h₂,tk₂,rfl,k2,r1⟩:=ps'
 refine Calls.spliced_cons ((G.AO 100).bd.ex _ _ _ _ h2 A { s with heap:=h₂,toks:=tk₂ } env hF O _ _ rm (F₁.keeps k2) (K₁.keep k2) fun v2 s₃ ps' => ?_)
 obtain ⟨h₃,tk₃,rfl,k3,r2⟩:=ps'
 have k13:=k2.trans k3
 have F₃:=F₁.keeps k13
 have fo : h₃.get? f = _:=k13.same hf (show Value.type "function" ≠ Value.type "frame" by decide)
 obtain ⟨la,us,rfl,nla,pl,rl⟩:=(r1.keep k3).is
 obtain ⟨t,ws,rfl,nt,pt,rt⟩:=id r2.is
 have fin : ∀ h₆ tk₆ v₆,KeepBut (fun b => b ∈ ([] : List Addr)) h₃ h₆ → JW prog w (waysAt cs) O (cs.tail.map rowP).length v₆ h₆ → Q v₆ { s with heap:=h₆,toks:=tk₆ }:=fun h₆ tk₆ v₆ k6 J6 => by
  have k36 : Keep h₃ h₆:=fun b o e => k6 b o (fun z => nomatch z) e
  rw [List.length_map] at J6
  unfold JW at J6
  rw [waysAt_all] at J6
  exact hQ v₆ h₆ tk₆ ps J6 (k0.trans (k13.trans k36).but) ((k13.trans k36).same tb (show Value.none ≠ Value.type "frame" by decide))
 obtain ⟨ar',har',_,call⟩:=reduce_rule (E:=E) (A:=A) (s:={ s with heap:=h₃,toks:=tk₃ }) (Ds:=[]) (J:=JW prog w (waysAt cs)) (O:=O) jw_acc (G.AO 0).bd.G G.FR G.hma hm1 hm2 (rm.le (by decide)) F₃.base (K₁.keep k13) F₃.F.old F.onew (fun ζ z => nomatch z) (fun ζ z => nomatch z)
  (fa:=f) fo (show Value.type "function" ≠ Value.type "frame" by decide) rfl (fun z => nomatch z) nla pl rl (t:=t) pt.choose_spec (fun q => by
   have h0:=F₃.base.same hm1 hm2.2
   subst q
   obtain ⟨n,h3⟩:=id pt
   have h4:=G.hmoc _ hm1
   rw [Option.some.inj (h0.symm.trans h3)] at h4
   exact absurd h4 (show Value.type "list" ≠ Value.type "object" by decide)) r2 (lam_step G hc fo (codeRec_keepK hrec k13)) fin
 cases har.symm.trans har'
 exact Calls.spliced_nil ⟨⟨F₃.base.same hor hcr,hdr⟩,call⟩
end
end
section
variable [bs : Base]
section
variable {prog : Program} {w : World} {T : Tab} {hb : Heap} {mg mb : Str → Option Value} {cl : Str → Option Value} {n : Nat} {A : Around} {r : Evs}
variable {sc : Names} {hF : Heap} {env : Env} {s : Shared} {O : Addr → Prop} {ρ : Vars} {E : Value → Shared → Prop} {D : Addr}
structure RowsF (prog : Program) (w : World) (h₀ : Heap) (O : Addr → Prop) (h : Heap) (ps : List (Addr × List PyData)) : Prop where
 rows : ∀ p ∈ ps,∃ vs,PL h p.1 vs ∧ RepAll prog w O h vs p.2
 nd : (ps.map (·.1)).Nodup
 new : ∀ p ∈ ps,h₀.get? p.1 = none ∧ ¬ O p.1
noncomputable def AccF (prog : Program) (w : World) (h₀ : Heap) (D : Addr) (O : Addr → Prop) (h : Heap) (acc : List PyData) : Prop :=
 ∃ ps : List (Addr × List PyData),acc = ps.map (fun p => .list p.2) ∧ PL h D (ps.map fun p => .ref p.1) ∧ RowsF prog w h₀ O h ps
theorem RowsF.off {h₀ h h' : Heap} {J : Addr → Prop} {ps : List (Addr × List PyData)} (x : RowsF prog w h₀ O h ps) (k : KeepBut J h h') (hJ : ∀ b,J b → O b) : RowsF prog w h₀ O h' ps :=
 ⟨fun p hp => let ⟨vs,l,rs⟩:=x.rows p hp;⟨vs,l.off k fun z => (x.new p hp).2 (hJ _ z),rs.keepBut (k.mono hJ)⟩,x.nd,x.new⟩
theorem accF_ok {h₀ : Heap} : AccOk D (AccF prog w h₀ D) where
 grow:=fun O O' h acc ⟨ps,e,pl,x⟩ hO => by
  have key : ∀ a o,h.get? a = some o → Tree o → ¬ O a → ¬ O' a:=fun a o e t nO z => by
   rcases hO a z with q | q | ⟨o',e',nt⟩
   ·exact nO q
   ·rw [q] at e;cases e
   ·rw [e'] at e;obtain rfl:=Option.some.inj e;exact nt t
  exact ⟨ps,e,pl,fun p hp => let ⟨vs,l,rs⟩:=x.rows p hp;⟨vs,l,rs.otherC key⟩,x.nd,fun p hp => let ⟨_,⟨_,e⟩,_⟩:=x.rows p hp;⟨(x.new p hp).1,key _ _ e (.inl rfl) (x.new p hp).2⟩⟩
 frame:=fun O h h' acc ⟨ps,e,pl,x⟩ k hD => ⟨ps,e,pl.keep hD,x.off k fun ζ z => z⟩
 cls:=fun O h acc ⟨ps,_,⟨m,e⟩,_⟩ => ⟨_,e,.inl rfl⟩
noncomputable def FrE (prog : Program) (w : World) (hb : Heap) (A : Around) (r : Evs) (sc : Names) (elt : Expr) : Prop :=
 ∀ ρ d,r.ex sc ρ elt = some d → ∃ ds,d = .list ds ∧ ∀ (s : Shared) (env : Env) (hF : Heap) (O : Addr → Prop) (Q : Value → Shared → Prop) (E : Value → Shared → Prop),
  Fx prog w hb sc hF O s.heap env ρ → Stk hb A s.heap → (∀ v s',NewL prog w O s s' v ds → Q v s') → wpAny (model prog w) A (eval elt env) Q E s
theorem emitF_ok {elt : Expr} (fr : FrE prog w hb A r sc elt) :
  EmitOk prog w hb A sc hF env D (AccF prog w hF D) (fun ρ' (acc : List PyData) => (r.ex sc ρ' elt).bind fun d => if acc.length ≤ 1048576 then some (acc ++ [d]) else none) (emitOf elt (.ref D) env):=by
 intro ρ acc acc' h s O Q F hD hS hn K ai hQ
 obtain ⟨d,h1,h⟩:=bMp h
 obtain ⟨hlim,h⟩:=ite_inv h
 obtain rfl:=Option.some.inj h
 obtain ⟨ds,rfl,ev⟩:=fr ρ d h1
 unfold emitOf
 refine wpAny_bind (ev s env hF O _ _ F K fun v s₁ p => ?_)
 obtain ⟨a,us,h₁,tk₁,rfl,ha,rfl,k1,pla,rsa⟩:=p
 obtain ⟨ps,rfl,pl,x⟩:=ai
 rw [List.length_map] at hlim
 refine wpAny_bind (wpAny_list_append_plain (items:=(ps.map fun p : Addr × List PyData => Value.ref p.1).toArray) (pl.keepK k1) (fun h₂ pl₂ sb => ?_) (by rw [sizeLine_eq,List.size_toArray,List.length_map];omega))
 refine wpAny_pure ?_
 have kD : KeepBut (· = D) h₁ h₂:=KeepBut.of_sameBut sb rfl
 have pl₂' : PL h₂ D ((ps.map fun p => Value.ref p.1) ++ [.ref a]):=by
  obtain ⟨m,e⟩:=pl₂
  exact ⟨m,by rw [e];simp⟩
 have haD : a ≠ D:=fun e => by obtain ⟨o,ho⟩:=F.F.old D hD;rw [← e,ha] at ho;cases ho
 have x₂:=(x.off (J:=fun ζ => False) (k1.but) fun ζ z => z.elim).off kD fun ζ q => q ▸ hD
 refine hQ h₂ tk₁ ((F.keeps k1).chgD hD hS hn kD (let ⟨m,e⟩:=pl₂';⟨_,e⟩)) ⟨ps ++ [(a,ds)],by rw [List.map_append];rfl,by rw [List.map_append];exact pl₂',fun p hp => ?_,?_,fun p hp => ?_⟩ (k1.but.trans kD)
 ·rcases List.mem_append.mp hp with hp | hp
  ·exact x₂.rows p hp
  ·rw [sMp hp]
   exact ⟨us,pla.off kD haD,(rsa.less fun ζ z => .inl z).keepBut (kD.mono fun ζ q => q ▸ hD)⟩
 ·rw [List.map_append]
  refine List.nodup_append.mpr ⟨x.nd,List.nodup_cons.mpr ⟨nofun,List.nodup_nil⟩,fun b hb' c hc e => ?_⟩
  obtain ⟨p,hp,rfl⟩:=lMp hb'
  obtain ⟨_,⟨_,e'⟩,_⟩:=x.rows p hp
  rw [e,sMp hc] at e'
  exact nomatch ha.symm.trans e'
 ·rcases List.mem_append.mp hp with hp | hp
  ·exact x.new p hp
  ·rw [sMp hp]
   exact ⟨F.F.keep.none ha,F.F.old.not ha⟩
variable (G : Gl prog w T hb mg mb) (Sx : ExOk prog w hb r.still n r.ex) (St' : TrOk prog w hb r.still n r.tr) (rm : Rm r.still hb n A)
include G Sx St' rm in
theorem listCompF_ok {elt : Expr} {g : Comprehension} {gs : List Comprehension} {scope : Scope} {pos : Pos} {ds : List PyData} (fr : FrE prog w hb A r scope.names elt) (h : compE r sc ρ (.ListComp elt (g :: gs) scope pos) = some (.list ds)) (F : Fx prog w hb sc hF O s.heap env ρ) (K : Stk hb A s.heap)
  {Q : Value → Shared → Prop} (hQ : ∀ D (ps : List (Addr × List PyData)) h' tk,ds = ps.map (fun p => .list p.2) → s.heap.get? D = none → Keep s.heap h' → PL h' D (ps.map fun p => .ref p.1) → RowsF prog w s.heap O h' ps → Q (.ref D) { s with heap:=h',toks:=tk }) :
  wpAny (model prog w) A (eval (.ListComp elt (g :: gs) scope pos) env) Q E s:=by
 obtain ⟨hs,h⟩:=ite_inv h
 obtain ⟨ds',h1,h⟩:=bMp h
 obtain ⟨acc,h2,h⟩:=bMp h
 cases h
 rw [eval_ListComp,firstAsync_ok hs.2]
 refine comp_ok G Sx St' rm (use:=none) (AccI:=AccF prog w s.heap) (emit:=fun D cenv => emitOf elt (.ref D) cenv) (obj:={ cls:=.type "list",data:=.seq ([] : List Value).toArray }) hs.1 rfl hs.2 h1 h2
  (fun s Q E h => wpAny_newObj_type h) rfl (.inl rfl) (fun O h => ⟨[],rfl,⟨0,Heap.get?_push_size _ rfl⟩,nofun,List.nodup_nil,nofun⟩) (fun D => accF_ok) (fun D cenv => emitF_ok fr) (fun D cenv => .list _ _ _ _) F K ?_
 intro D C h' tk O' m hD hC hCD k sub oC oD ai hm
 obtain ⟨ps,e,pl,x⟩:=ai
 refine ⟨m,hm,fun h'' sb => ?_⟩
 have x':=x.off (KeepBut.of_sameBut (O:=(· = C)) sb rfl) fun ζ q => q ▸ oC
 exact hQ D ps h'' tk e hD (keep_chgC k hC sb) (pl.keep fun o e => sb.extBut D o (Ne.symm hCD) e) ⟨fun p hp => let ⟨vs,l,rs⟩:=x'.rows p hp;⟨vs,l,rs.less sub⟩,x'.nd,fun p hp => ⟨(x'.new p hp).1,fun z => (x'.new p hp).2 (sub _ z)⟩⟩
end
section
variable {prog : Program} {w : World} {hb : Heap} {mg mb : Str → Option Value} {A : Around} {sc : Names}
theorem frE_copy {T : Tab} {cl : Str → Option Value} {n : Nat} (AO : AllOk prog w T hb mg mb cl n (evs T n)) (rm : Rm false hb n A) {a : Expr} {np pos : Pos} (hg : sc.lookup (Str.ofString "list") = some .globalImplicit) (hs : isStar a = false) : FrE prog w hb A (evs T (n + 1)) sc (.Call (.Name (Str.ofString "list") np) [a] [] pos):=by
 intro ρ d h
 have hbl : blts.lookup (Str.ofString "list") = some "list":=by decide +kernel
 rw [ev_ex,x_call,callE,if_pos hg,hbl] at h
 obtain ⟨_,h⟩:=ite_inv' h
 obtain ⟨da,h2,h⟩:=bMp h
 obtain ⟨xs,hx,h⟩:=bMp (show copyD da = some d from h)
 obtain ⟨hb',h⟩:=ite_inv h
 obtain rfl:=Option.some.inj h
 refine ⟨xs,rfl,fun s env hF' O Q E F K hQ => ?_⟩
 refine wpAny_Call_Name_kw (nameB_ok AO.bd.G F hg hbl ?_)
 rw [starEach_cons hs,backTo_cons]
 refine callWith_blt rfl (Calls.evalArgs_plain (Calls.spliced_cons (AO.bd.ex sc ρ a da h2 A s env hF' O _ _ rm F K fun v s₁ ps => ?_)))
 obtain ⟨h₁,tk₁,rfl,k1,rv⟩:=ps
 refine Calls.spliced_nil ?_
 show wpAny _ _ (call (.type "list") [v]) _ _ _
 rw [asList_inv hx] at rv
 obtain ⟨l,vs,rfl,nl,pl,rs⟩:=rv.is
 obtain ⟨o,ho,hc,m,hd⟩:=pl.isList
 refine call_list_seq (s:={ s with heap:=h₁,toks:=tk₁ }) (hsz:=by rw [sizeLine_eq,List.size_toArray,rs.length];unfold lim at hb';omega) l (.inl rfl) ho hc hd fun h' c' hk hD => hQ _ _ ⟨_,vs,h',tk₁,rfl,k1.none (fresh_size _),rfl,k1.trans (.of hk),⟨c',hD⟩,(rs.more fun b z => z.imp_right fun (q : b = h₁.objs.size) => q ▸ fresh_size _).keep (.of hk)⟩
end
end
section
variable [bs : Base]
section
variable {prog : Program} {w : World} {T : Tab} {hb : Heap} {mg mb : Str → Option Value} {cl : Str → Option Value} {n : Nat} {A : Around} {r : Evs}
variable {sc : Names} {hF : Heap} {env : Env} {s : Shared} {O : Addr → Prop} {ρ : Vars} {E : Value → Shared → Prop} {D : Addr}
theorem RowsF.less {h₀ h : Heap} {O O' : Addr → Prop} {ps : List (Addr × List PyData)} (x : RowsF prog w h₀ O' h ps) (sub : ∀ a,O a → O' a) : RowsF prog w h₀ O h ps :=
 ⟨fun p hp => let ⟨vs,l,rs⟩:=x.rows p hp;⟨vs,l,rs.less sub⟩,x.nd,fun p hp => ⟨(x.new p hp).1,fun z => (x.new p hp).2 (sub _ z)⟩⟩
theorem Fx.rows {h h' : Heap} {O₁ : Addr → Prop} {ps : List (Addr × List PyData)} (F : Fx prog w hb sc hF O h env ρ) (k : Keep h h') (rf : RowsF prog w h O₁ h' ps) : Fx prog w hb sc hF (fun a => O a ∨ a ∈ ps.map (·.1)) h' env ρ :=
 F.grow k (fun a z => .inl z) (fun a z => z.imp_right fun z => by
  obtain ⟨p,hp,rfl⟩:=lMp z
  exact (rf.new p hp).1) fun a z => z.elim (F.F.old.keep k a) fun z => by
  obtain ⟨p,hp,rfl⟩:=lMp z
  obtain ⟨_,⟨_,e⟩,_⟩:=rf.rows p hp
  exact ⟨_,e⟩
variable (G : Gl prog w T hb mg mb) (Sx : ExOk prog w hb r.still n r.ex) (St' : TrOk prog w hb r.still n r.tr) (rm : Rm r.still hb n A)
include G Sx St' rm in
theorem asgF_ok {elt : Expr} {g : Comprehension} {gs : List Comprehension} {scope : Scope} {pos pos' p : Pos} {x : Str} {ds : List PyData} (fr : FrE prog w hb A r scope.names elt) (h : compE r sc ρ (.ListComp elt (g :: gs) scope pos') = some (.list ds)) (hx : isOwn (sc.lookup x) = true) (hxn : ρ.lookup x = none) (F : Fx prog w hb sc hF O s.heap env ρ) (K : Stk hb A s.heap)
  {Q : Flow → Shared → Prop} (hQ : ∀ D (ps : List (Addr × List PyData)) h' tk,ds = ps.map (fun p => .list p.2) → s.heap.get? D = none → PL h' D (ps.map fun p => .ref p.1) → RowsF prog w s.heap O h' ps → Fx prog w hb sc hF (fun a => O a ∨ a ∈ ps.map (·.1)) h' env ρ → KeepBut (OwnS hF O env) s.heap h' → Kept env sc [x] s.heap h' → VarIs h' env sc x (.ref D) → Q .next { s with heap:=h',toks:=tk }) :
  wpAny (model prog w) A (exec (.Assign [.Name x p] (.ListComp elt (g :: gs) scope pos') pos) env) Q E s:=by
 obtain ⟨mL,hnL,_⟩:=F.F.ns
 have nSl : ∀ {D},s.heap.get? D = none → ¬ Sl env D:=fun hD z => let ⟨_,ho⟩:=F.slot_old z;nomatch hD.symm.trans ho
 refine assign_name_rule (listCompF_ok G Sx St' rm fr h F K fun D ps h₁ tk₁ e hD k pl rf => ?_) (fun ζ => ?_) rfl
 ·have F₁:=F.rows k rf
  exact F₁.F.storeV (s:={ s with heap:=h₁,toks:=tk₁ }) (isOwn_cases hx) hxn fun h' tk F' kO' kp vi => have kO : KeepBut (OwnS hF O env) h₁ h':=kO'.mono fun b z => ⟨⟨F.F.slot z.2,z.1.2⟩,z.2⟩
   hQ D ps h' tk e hD (pl.off kO fun z => nSl hD z.2) (rf.off kO fun b z => z.1.1) ⟨F',F.kb,F₁.onew⟩ (k.but.trans kO) (((Kept.of_keep (sc:=sc) hnL k).trans kp).mono fun y hy => hy) vi
 ·obtain ⟨hs,h⟩:=ite_inv h
  obtain ⟨ds',h1,h⟩:=bMp h
  obtain ⟨acc,h2,h⟩:=bMp h
  cases h
  show wpAny _ _ (do let _ ← comprehension (.ListComp elt (g :: gs) scope pos') scope env (firstIterPos (g :: gs) pos') (newList []) (firstAsync (g :: gs)) (firstIter (g :: gs) env) (some fun v => assign (.Name x p) env v)) _ E s
  have ha : firstAsync (g :: gs) = false:=firstAsync_ok hs.2
  rw [ha]
  refine wpAny_bind (comp_ok G Sx St' rm (use:=some fun v => assign (.Name x p) env v) (AccI:=AccF prog w s.heap) (emit:=fun D cenv => emitOf elt (.ref D) cenv) (obj:={ cls:=.type "list",data:=.seq ([] : List Value).toArray }) hs.1 rfl hs.2 h1 h2
   (fun s Q E h => wpAny_newObj_type h) rfl (.inl rfl) (fun O h => ⟨[],rfl,⟨0,Heap.get?_push_size _ rfl⟩,nofun,List.nodup_nil,nofun⟩) (fun D => accF_ok) (fun D cenv => emitF_ok fr) (fun D cenv => .list _ _ _ _) F K ?_)
  intro D C h₁ tk₁ O' m hD hC hCD k sub oC oD ai hm
  obtain ⟨ps,e,pl,rf⟩:=ai
  have hCp : C ∉ ps.map (·.1):=fun z => by
   obtain ⟨p,hp,q⟩:=lMp z
   exact (rf.new p hp).2 (q ▸ oC)
  have F₀:=F.rows k rf
  have hCO : ¬ (O C ∨ C ∈ ps.map (·.1)):=fun z => z.elim (F.F.old.not hC) hCp
  have F₁ : Fx prog w hb sc hF (fun a => (O a ∨ a ∈ ps.map (·.1)) ∨ a = C) h₁ env ρ:=F.grow k (fun a z => .inl (.inl z)) (fun a z => z.elim (fun z => z.imp_right fun z => by
    obtain ⟨p,hp,rfl⟩:=lMp z
    exact (rf.new p hp).1) fun (q : a = C) => .inr (q ▸ hC)) fun a z => z.elim (F₀.F.old a) fun q => let ⟨o,_,_,ho,_⟩:=hm;⟨o,q ▸ ho⟩
  refine wpAny_assign_Name (F₁.F.storeV (s:={ s with heap:=h₁,toks:=tk₁ }) (isOwn_cases hx) hxn fun h₂ tk₂ F₂ kO' kp vi => ⟨m,ns_alike hm fun o e => kO' C o (fun z => nSl hC z.2) e,fun h₃ sb => wpAny_pure ?_⟩)
  have kO : KeepBut (OwnS hF O env) h₁ h₂:=kO'.mono fun b z => ⟨⟨F.F.slot z.2,z.1.2⟩,z.2⟩
  have kI : KeepBut (· = C) h₂ h₃:=KeepBut.of_sameBut sb rfl
  have F₃:=Fx.dropI (I:=C) ⟨F₂,F₁.kb,F₁.onew⟩ (.inr rfl) (nSl hC) (F.F.keep.none hC) kI
  rw [less_addI (O:=fun a => O a ∨ a ∈ ps.map (·.1)) hCO] at F₃
  obtain ⟨mL',hn',_⟩:=F₂.ns
  have ko:=Kept.of_off (sc:=sc) hn' kI (nSl hC)
  refine hQ D ps h₃ tk₂ e hD ((pl.off kO fun z => nSl hD z.2).off kI (Ne.symm hCD)) (((rf.off kO fun b z => sub b z.1.1).off kI fun b q => q ▸ oC).less sub) F₃ (fun b o nb eb => ?_) ((((Kept.of_keep (sc:=sc) hnL k).trans kp).trans ko).mono fun y hy => by simpa using hy) (ko.vk _ _ nofun vi)
  obtain ⟨o₁,e₁,a₁⟩:=k b o eb
  have hbC : b ≠ C:=fun q => by subst q;rw [hC] at eb;cases eb
  obtain ⟨o₂,e₂,a₂⟩:=kO b o₁ nb e₁
  exact ⟨o₂,sb.extBut b o₂ hbC e₂,a₁.trans a₂⟩
end
end
section
variable [bs : Base]
noncomputable def triedF : Fn:=fnAt PP none 40
noncomputable def rho0 (ws : List (List Str)) (nd : PyData) : Vars:=[(Str.ofString "way",.list (ws.map rowT)),(Str.ofString "named",nd)]
noncomputable def copyE : Expr:=svE (nth triedF.body 0)
theorem copy_ex (ws : List (List Str)) (nd : PyData) (h1 : ws.length ≤ 1000) (h2 : ∀ w ∈ ws,w.length ≤ 1000) : (evs TA 61).ex triedF.names (rho0 ws nd) copyE = some (.list (ws.map rowT)):=by
 refine compA (T:=TA) (n:=60) (sc:=triedF.names) (ρ:=rho0 ws nd) (E:=copyE) (xs:=ws) (Str.ofString "row") rowT rowT ⟨_,rfl⟩ (by kernel_rfl) (by kernel_rfl) (by kernel_rfl) (by omega) fun x hx => ?_
 refine (show _ = builtin1 "list" (rowT x) by kernel_rfl).trans ?_
 show (if (x.map PyData.str).length ≤ lim then some _ else none) = _
 rw [if_pos (by rw [List.length_map];exact Nat.le_trans (h2 x hx) (by decide))]
 rfl
end
section
variable [bs : Base]
noncomputable def rho1 (ws : List (List Str)) (nd : PyData) (rest : List (List Str)) : Vars:=(Str.ofString "rows",.list (rest.map rowT)) :: rho0 ws nd
theorem rows_strs {prog : Program} {w : World} {h₀ h : Heap} {O : Addr → Prop} {ps : List (Addr × List PyData)} {ws : List (List Str)} (e : ws.map rowT = ps.map fun p => .list p.2) (x : RowsF prog w h₀ O h ps) : ∃ qs : List (Addr × List Str),qs.map (·.1) = ps.map (·.1) ∧ qs.map (·.2) = ws ∧ RowsP h qs:=by
 have hl : ws.length = ps.length:=by have:=congrArg List.length e;simpa using this
 refine ⟨(ps.map (·.1)).zip ws,List.map_fst_zip (by rw [List.length_map,hl];exact Nat.le_refl _),List.map_snd_zip (by rw [List.length_map,hl];exact Nat.le_refl _),fun q hq => ?_⟩
 obtain ⟨i,hi,rfl⟩:=List.mem_iff_getElem.mp hq
 rw [List.length_zip,List.length_map,hl,Nat.min_self] at hi
 have hw : i < ws.length:=hl ▸ hi
 have e' : rowT ws[i] = .list ps[i].2:=by
  have:=congrArg (·[i]?) e
  simpa [hi,hw] using this
 obtain ⟨vs,pl,rs⟩:=x.rows ps[i] (List.getElem_mem hi)
 injection e' with e'
 rw [← e'] at rs
 simp only [List.getElem_zip,List.getElem_map]
 exact ⟨vs,pl,rs.strs (strsOf_map _)⟩
section
variable {prog : Program} {w : World} {hb : Heap} {mg mb : Str → Option Value} {n : Nat} {A : Around} {s : Shared} {env : Env} {E : Value → Shared → Prop}
variable {hF : Heap} {O : Addr → Prop}
structure TR (prog : Program) (w : World) (hb hF : Heap) (O : Addr → Prop) (env : Env) (A : Around) (D : Addr) (qs : List (Addr × List Str)) (ρ : Vars) (h : Heap) : Prop where
 F : Fx prog w hb triedF.names hF (fun a => O a ∨ a ∈ qs.map (·.1)) h env ρ
 K : Stk hb A h
 v : VarIs h env triedF.names (Str.ofString "rows") (.ref D)
 pl : PL h D (qs.map fun p => .ref p.1)
 rows : RowsP h qs
 nd : (qs.map (·.1)).Nodup
 new : ∀ p ∈ qs,hF.get? p.1 = none ∧ ¬ O p.1 ∧ ¬ Sl env p.1
 nD : ¬ O D ∧ D ∉ qs.map (·.1)
 sl : ∀ a,Sl env a → O a
theorem rows_rep {h : Heap} {qs : List (Addr × List Str)} {O : Addr → Prop} (r : RowsP h qs) (n : ∀ p ∈ qs,¬ O p.1) : RepAll prog w O h (qs.map fun p => .ref p.1) ((qs.map (·.2)).map rowT):=by
 induction qs with
 | nil => exact .nil
 | cons p qs ih =>
  obtain ⟨vs,pl,sa⟩:=r p List.mem_cons_self
  exact .cons (.list (n p List.mem_cons_self) pl (StrsAre.rep sa)) (ih (fun q hq => r q (List.mem_cons_of_mem _ hq)) fun q hq => n q (List.mem_cons_of_mem _ hq))
theorem TR.see {D : Addr} {qs : List (Addr × List Str)} {ρ : Vars} {h : Heap} (x : TR prog w hb hF O env A D qs ρ h) : Fx prog w hb triedF.names hF O h env ((Str.ofString "rows",.list ((qs.map (·.2)).map rowT)) :: ρ) :=
 x.F.withVar (fun ζ z => .inl z) x.sl x.v (.list x.nD.1 x.pl (rows_rep x.rows fun p hp => (x.new p hp).2.1))
end
end
section
variable [bs : Base]
section
variable {prog : Program} {w : World} {hb : Heap} {mg mb : Str → Option Value} {n : Nat} {A : Around} {s : Shared} {env : Env} {E : Value → Shared → Prop}
variable {hF : Heap} {O : Addr → Prop}
theorem TR.keepBut {D : Addr} {qs : List (Addr × List Str)} {ρ : Vars} {h h' : Heap} (x : TR prog w hb hF O env A D qs ρ h) (k : Keep h h') : TR prog w hb hF O env A D qs ρ h' :=
 ⟨x.F.keeps k,x.K.keep k,x.v.keep k,x.pl.keepK k,x.rows.keep k,x.nd,x.new,x.nD,x.sl⟩
theorem strs_mem {vs : List Value} {xs : List Str} (h : StrsAre vs xs) : ∀ v ∈ vs,∃ x t,v = .str x t:=by
 induction h with
 | nil => exact fun v hv => nomatch hv
 | cons x t _ ih => exact fun v hv => (cMp hv).elim (fun e => ⟨x,t,e⟩) (ih v)
set_option maxRecDepth 10000 in
theorem tried_rows (G : GroundA prog w hb mg mb) (rm : Rm false hb 70 A) {ws : List (List Str)} {nd : PyData} (F : Fx prog w hb triedF.names hF O s.heap env (rho0 ws nd)) (K : Stk hb A s.heap) (h1 : ws.length ≤ 1000) (h2 : ∀ w ∈ ws,w.length ≤ 1000) {Q : Flow → Shared → Prop}
  (hQ : ∀ D qs h' tk,qs.map (·.2) = ws → TR prog w hb hF O env A D qs (rho0 ws nd) h' → Q .next { s with heap:=h',toks:=tk }) : wpAny (model prog w) A (exec (nth triedF.body 0) env) Q E s:=by
 obtain ⟨q,np,a,cp,g,gs,pos',pos,e0,hs⟩ : ∃ q np a cp g gs pos' pos,nth triedF.body 0 = .Assign [.Name (Str.ofString "rows") q] (.ListComp (.Call (.Name (Str.ofString "list") np) [a] [] cp) (g :: gs) (cvS copyE) pos') pos ∧ isStar a = false:=⟨_,_,_,_,_,_,_,_,rfl,rfl⟩
 have hc:=copy_ex ws nd h1 h2
 rw [show copyE = .ListComp (.Call (.Name (Str.ofString "list") np) [a] [] cp) (g :: gs) (cvS copyE) pos' from congrArg svE e0,ev_ex,x_lcomp] at hc
 rw [e0]
 have hg : (cvS copyE).names.lookup (Str.ofString "list") = some .globalImplicit:=by kernel_rfl
 generalize cvS copyE = scope at *
 refine asgF_ok (G.AO 60).bd.G (G.AO 60).bd.ex (G.AO 60).bd.tr (rm.le (by decide)) (frE_copy (n:=59) (G.AO 59) (rm.le (by decide)) hg hs) hc (by kernel_rfl) (by kernel_rfl) F K fun D ps h' tk e hD pl rf F' k kp vi => ?_
 obtain ⟨qs,e1,e2,rp⟩:=rows_strs e rf
 have sl : ∀ a,Sl env a → O a:=fun a z => F.F.slot z
 have en : ∀ p ∈ qs,∃ p' ∈ ps,p'.1 = p.1:=fun p hp => lMp (e1 ▸ lMr ⟨p,hp,rfl⟩)
 refine hQ D qs h' tk e2 ⟨by rw [e1];exact F',K.off F.F (k.mono fun b z => z.2) kp.lc (fun a z => .inl z),vi,?_,rp,e1 ▸ rf.nd,fun p hp => ?_,⟨F.F.old.not hD,fun z => ?_⟩,sl⟩
 ·have h : (qs.map fun p => Value.ref p.1) = ps.map fun p => Value.ref p.1:=by
   have:=congrArg (List.map Value.ref) e1
   rw [List.map_map,List.map_map] at this
   exact this
  rw [h];exact pl
 ·obtain ⟨p',hp',q⟩:=en p hp
  obtain ⟨n1,n2⟩:=rf.new p' hp'
  rw [← q]
  exact ⟨F.F.keep.none n1,n2,fun z => n2 (sl _ z)⟩
 ·obtain ⟨p,hp,q⟩:=lMp z
  obtain ⟨vs,plp,sa⟩:=rp p hp
  obtain ⟨p',hp',q'⟩:=en p hp
  rw [q] at plp
  have hm : Value.ref p'.1 ∈ vs:=(plp.uniq pl) ▸ lMr ⟨p',hp',rfl⟩
  obtain ⟨x,t,e⟩:=strs_mem sa _ hm
  cases e
end
end
section
variable [bs : Base]
section
variable {prog : Program} {w : World} {hb : Heap} {mg mb : Str → Option Value} {n : Nat} {A : Around} {s : Shared} {env : Env} {E : Value → Shared → Prop}
variable {hF : Heap} {O : Addr → Prop} {D : Addr} {qs fin : List (Addr × List Str)} {ρ : Vars}
theorem TR.chg {h h' : Heap} (x : TR prog w hb hF O env A D qs ρ h) (k : KeepBut (fun b => b ∈ qs.map (·.1)) h h') (e : fin.map (·.1) = qs.map (·.1)) (r : RowsP h' fin) : TR prog w hb hF O env A D fin ρ h':=by
 have mem : ∀ p ∈ fin,∃ p' ∈ qs,p'.1 = p.1:=fun p hp => lMp (e ▸ lMr ⟨p,hp,rfl⟩)
 have nS : ∀ b,b ∈ qs.map (·.1) → ¬ Sl env b:=fun b z => by obtain ⟨p,hp,rfl⟩:=lMp z;exact (x.new p hp).2.2
 have F':=x.F.chgJ (J:=fun b => b ∈ qs.map (·.1)) (fun ζ z => .inr z) nS (fun b z => by obtain ⟨p,hp,rfl⟩:=lMp z;exact (x.new p hp).1) k fun b z => by
  rw [← e] at z
  obtain ⟨p,hp,rfl⟩:=lMp z
  obtain ⟨_,⟨_,e⟩,_⟩:=r p hp
  exact ⟨_,e⟩
 have K' : Stk hb A h':=x.K.chg k fun b z o es ep ho hco hdo => by
  obtain ⟨p,hp,rfl⟩:=lMp z
  obtain ⟨_,⟨_,e'⟩,_⟩:=x.rows p hp
  rw [ho] at e';cases e';cases hdo
 obtain ⟨m,hm⟩:=x.F.ns
 have hpl : (fin.map fun p => Value.ref p.1) = qs.map fun p => Value.ref p.1:=by
  have:=congrArg (List.map Value.ref) e
  rw [List.map_map,List.map_map] at this
  exact this
 exact ⟨e ▸ F',K',x.v.off hm k nS,by rw [hpl];exact x.pl.off k x.nD.2,r,e ▸ x.nd,fun p hp => by
  obtain ⟨p',hp',q⟩:=mem p hp
  exact q ▸ x.new p' hp',⟨x.nD.1,e ▸ x.nD.2⟩,x.sl⟩
set_option maxRecDepth 10000 in
theorem tried_merge (G : GroundA prog w hb mg mb) (rm : Rm false hb 60 A) (x : TR prog w hb hF O env A D qs ρ s.heap) (hb0 : ∀ p ∈ qs,hb.get? p.1 = none) (hok : ∀ p ∈ qs,OkRow p.2) (hlen : qs.length ≤ 1000) (hbnd : ((qs.map (·.2)).map List.length).sum ≤ 1000000) {out : Option (List Str)} {rest : List (List Str)} (hc : C3 (qs.map (·.2)) [] out rest) {Q : Flow → Shared → Prop}
  (hQ : ∀ l,out = some l → ∀ fin h' tk,fin.map (·.2) = rest → TR prog w hb hF O env A D fin (setV ρ (Str.ofString "order") (rowT l)) h' → Q .next { s with heap:=h',toks:=tk })
  (hE : out = none → ∀ fin h₁ h' tk e,fin.map (·.2) = rest → TR prog w hb hF O env A D fin ρ h₁ → Fly2 h₁ h' e (.type "RuntimeError") (Str.ofString "Inconsistent hierarchy") .none → Lone h' e → E (.ref e) { s with heap:=h',toks:=tk }) :
  wpAny (model prog w) A (exec (nth (svB (nth triedF.body 1)) 0) env) Q E s:=by
 have eS : nth (svB (nth triedF.body 1)) 0 = nth (svB (nth triedF.body 1)) 0:=rfl
 conv at eS => rhs;whnf
 rw [eS]
 obtain ⟨ac,oc,fdc,hac,hoc,hcc,hdc,_⟩:=G.FC.there
 refine wpAny_Assign_Name (wpAny_Call_Name_kw (nameG_ok (G.AO 0).bd.G x.F (by kernel_rfl) hac ?_)) (by rfl)
 rw [starEach_cons rfl,backTo_cons]
 refine Calls.callWith_function (o:=oc) (fd:=fdc) (Calls.evalArgs_plain (Calls.spliced_cons (x.v.name x.F.F (Calls.spliced_nil ⟨⟨x.F.base.same hoc hcc,hdc⟩,?_⟩))))
 refine c3_call G.AO G.XE G.FC (rm.le (by decide)) x.F.base x.K G.hmg G.hmb x.pl x.rows x.nd hb0 hok hlen hbnd hc hac (fun fin res h₁ tk₁ R us e0 e1 e2 hR lR sa rp k => ?_) fun e0 fin h₁ h' tk e e1 e2 rp k f ln => hE e0 fin h₁ h' tk e e2 (x.chg k e1 rp) f ln
 have x₁:=x.chg k e1 rp
 have nR : ¬ (O R ∨ R ∈ fin.map (·.1)):=e1 ▸ x.F.F.old.not hR
 refine x₁.F.store (s:={ s with heap:=h₁,toks:=tk₁ }) (show isOwn (triedF.names.lookup (Str.ofString "order")) = true by kernel_rfl) (d:=rowT res) (.list nR lR (StrsAre.rep sa)) fun h₂ tk₂ F₂ k₂ kp₂ ζ => hQ res e0 fin h₂ tk₂ e2 ⟨F₂,x₁.K.off x₁.F.F (k₂.mono fun b z => z.2) kp₂.lc fun a z => .inl z,kp₂.vk _ _ (by rw [List.mem_singleton,ofString_iff];decide) x₁.v,?_,?_,x₁.nd,x₁.new,x₁.nD,x₁.sl⟩
 ·exact x₁.pl.off k₂ fun z => x₁.nD.1 (x₁.sl _ z.2)
 ·exact x₁.rows.off k₂ fun p hp z => (x₁.new p hp).2.2 z.2
end
end
section
variable [bs : Base]
section
variable {prog : Program} {w : World} {hb : Heap} {mg mb : Str → Option Value} {n : Nat} {A : Around} {s : Shared} {env : Env} {E : Value → Shared → Prop}
variable {hF : Heap} {O : Addr → Prop} {D : Addr} {qs fin : List (Addr × List Str)} {ρ : Vars}
theorem tried_told (G : GroundA prog w hb mg mb) (rm : Rm false hb 60 A) (x : TR prog w hb hF O env A D qs ρ s.heap) {res : Str} {σ : St}
  (h : (evs TA 60).ss triedF.names none ⟨(Str.ofString "rows",.list ((qs.map (·.2)).map rowT)) :: ρ,none⟩ [nth triedF.body 2,nth triedF.body 3] = some (.ok (.ret (.str res),σ))) {Q : Flow → Shared → Prop}
  (hQ : ∀ h' tk t,Keep hF h' → Q (.ret (.str res t)) { s with heap:=h',toks:=tk }) : wpAny (model prog w) A (execs [nth triedF.body 2,nth triedF.body 3] env) Q E s:=by
 have q₀ : Fs prog w hb triedF.names hF O s.heap env ⟨(Str.ofString "rows",.list ((qs.map (·.2)).map rowT)) :: ρ,none⟩ none:=⟨x.see,.inl ⟨rfl,rfl⟩⟩
 refine (G.AO 60).ss triedF.names none _ _ _ h (stL [nth triedF.body 2,nth triedF.body 3]) (fun ζ hx => hx) A s env hF O none _ _ rm (fun ζ ζ e => nomatch e) q₀ x.K (fun out' σ₂ e O' h₁ tk' oa' fl hfl aft => ?_) (fun ζ e => nomatch e)
 cases e
 obtain ⟨v,rfl,hv⟩:=hfl
 obtain ⟨t,rfl⟩:=(hv (fun ζ => False) (fun ζ z => z.elim) fun ζ z => z.elim).is
 exact hQ h₁ tk' t aft.fs.F.F.keep
end
end
section
variable [bs : Base]
noncomputable def only (h : Heap) (p : Addr → Bool) : Heap:=mask h ((List.range h.objs.size).filter fun b => !p b)
theorem only_some {h : Heap} {p : Addr → Bool} {b : Addr} {o : Obj} (e : (only h p).get? b = some o) : h.get? b = some o ∧ p b = true:=by
 obtain ⟨e1,e2⟩:=mask_some e
 refine ⟨e1,?_⟩
 cases hp : p b with
 | true => rfl
 | false => exact absurd (fMr ⟨List.mem_range.mpr (Heap.lt_size e1),by rw [hp];rfl⟩) e2
theorem only_get {h : Heap} {p : Addr → Bool} {b : Addr} (hp : p b = true) : (only h p).get? b = h.get? b:=mask_other fun z => by
 have:=(fMp z).2
 rw [hp] at this;cases this
theorem only_none {h : Heap} {p : Addr → Bool} {b : Addr} (hp : p b = false) : (only h p).get? b = none:=by
 cases q : (only h p).get? b with
 | none => rfl
 | some o => rw [(only_some q).2] at hp;cases hp
theorem only_keep {h : Heap} {p : Addr → Bool} : Keep (only h p) h:=.of fun b o e => (only_some e).1
noncomputable def domE (hb : Heap) (e b : Addr) : Bool:=(hb.get? b).isSome || b == e
theorem domE_none {hb : Heap} {e b : Addr} (h : hb.get? b = none) (n : b ≠ e) : domE hb e b = false:=by
 unfold domE
 rw [h]
 simpa using n
theorem domE_some {hb : Heap} {e b : Addr} {o : Obj} (h : hb.get? b = some o) : domE hb e b = true:=by
 unfold domE
 rw [h];rfl
theorem domE_keep {hb h : Heap} {e : Addr} (k : Keep hb h) : Keep hb (only h (domE hb e)):=fun b o eb => by
 obtain ⟨o',e',al⟩:=k b o eb
 exact ⟨o',(only_get (domE_some eb)).trans e',al⟩
noncomputable def tab0 : Tab:=⟨[],[],[],[]⟩
section
variable {prog : Program} {w : World} {T : Tab} {hb : Heap} {mg mb : Str → Option Value} {A : Around} {env : Env}
variable {hF h : Heap} {O : Addr → Prop} {ρ : Vars} {sc : Names} {e : Addr}
theorem quiet_base (F : Fx prog w hb sc hF O h env ρ) (K : Stk hb A h) (G : Gl prog w T hb mg mb) {oe : Obj} (he : h.get? e = some oe) (hc : oe.cls ≠ .type "frame") (nO : ¬ O e) :
  Fx prog w (only h (domE hb e)) sc (only h (domE hF e)) O h env ρ ∧ Stk (only h (domE hb e)) A h ∧ Gl prog w tab0 (only h (domE hb e)) mg mb ∧ (only h (domE hb e)).get? e = some oe:=by
 have kb:=domE_keep (e:=e) F.base
 have nS : ∀ a,Sl env a → a ≠ e:=fun a z q => nO (q ▸ F.F.slot z)
 refine ⟨⟨{ F.F with
   cel:=fun x ex => let ⟨e1,c,e2,e3⟩:=F.F.cel x ex;⟨e1,c,e2,only_none (domE_none e3 (nS c (.inr ⟨x,e2⟩)))⟩
   oloc:=⟨F.F.oloc.1,only_none (domE_none F.F.oloc.2 (nS _ (.inl rfl)))⟩
   keep:=only_keep },fun b o eb => ?_,fun a z => only_none (domE_none (F.onew a z) fun q => nO (q ▸ z))⟩,?_,?_,(only_get (by unfold domE;simp)).trans he⟩
 ·obtain ⟨e1,e2⟩:=only_some eb
  refine ⟨o,(only_get ?_).trans e1,.refl _⟩
  unfold domE at e2 ⊢
  rw [Bool.or_eq_true] at e2 ⊢
  refine e2.imp_left fun z => ?_
  obtain ⟨o',eo⟩:=Option.isSome_iff_exists.mp z
  obtain ⟨o'',eo',_⟩:=F.kb b o' eo
  rw [eo'];rfl
 ·obtain ⟨l,el,f,lk⟩:=K
  refine ⟨l,el,fun en hm => ?_,fun a ha => lk a ?_⟩
  ·obtain ⟨h1,L,o,es,ep,h2,h3,h4,h5,h6⟩:=f en hm
   exact ⟨h1,L,o,es,ep,h2,only_none (domE_none h3 fun q => by rw [q,he] at h4;obtain rfl:=Option.some.inj h4;exact hc h5),h4,h5,h6⟩
  ·cases q : hb.get? a with
   | none => rfl
   | some o =>
    obtain ⟨o',e',_⟩:=kb a o q
    rw [ha] at e';cases e'
 ·exact ⟨ns_keep G.g kb,ns_keep G.b kb,noLimit_keepK G.lim kb,(let ⟨o,ho⟩:=G.sm;let ⟨o',ho',_⟩:=kb _ o ho;⟨o',ho'⟩),G.blt,fun ζ ζ z => (nomatch z),fun ζ ζ z => (nomatch z)⟩
end
end
section
variable [bs : Base]
section
variable {prog : Program} {w : World} {T : Tab} {hb : Heap} {mg mb : Str → Option Value} {n : Nat} {A : Around} {env : Env} {s : Shared} {E : Value → Shared → Prop}
variable {hF : Heap} {O : Addr → Prop} {ρ : Vars} {sc : Names}
theorem asgQ_ok (G : Gl prog w T hb mg mb) (rm : Rm true hb (n + 1) A) {elt : Expr} {g : Comprehension} {gs : List Comprehension} {scope : Scope} {pos pos' p : Pos} {x : Str} {d : PyData} (h : (evq T (n + 1)).ex sc ρ (.ListComp elt (g :: gs) scope pos') = some d) (hx : isOwn (sc.lookup x) = true) (F : Fx prog w hb sc hF O s.heap env ρ) (K : Stk hb A s.heap)
  {Q : Flow → Shared → Prop} (hQ : ∀ h' tk,Fx prog w hb sc hF O h' env (setV ρ x d) → KeepBut (OwnS hF O env) s.heap h' → Kept env sc [x] s.heap h' → Q .next { s with heap:=h',toks:=tk }) :
  wpAny (model prog w) A (exec (.Assign [.Name x p] (.ListComp elt (g :: gs) scope pos') pos) env) Q E s:=by
 obtain ⟨mL,hnL,_⟩:=F.F.ns
 obtain ⟨Sx,St'⟩:=evq_ok (prog:=prog) (w:=w) G n
 have hs:=evq_still T n
 refine assign_name_rule ((evq_ok G (n + 1)).1 _ _ _ _ h A s env hF O _ _ rm F K fun v s₁ ps => ?_) (fun ζ => ?_) rfl
 ·obtain ⟨h₁,tk₁,rfl,k1,rv⟩:=ps
  exact (F.keeps k1).store (s:={ s with heap:=h₁,toks:=tk₁ }) hx rv fun h' tk F' kO kp ζ => hQ h' tk F' (k1.but.trans kO) (((Kept.of_keep (sc:=sc) hnL k1).trans kp).mono fun y hy => hy)
 ·have hc : compE (evq T n) sc ρ (.ListComp elt (g :: gs) scope pos') = some d:=h
  show wpAny _ _ (do let _ ← comprehension (.ListComp elt (g :: gs) scope pos') scope env (firstIterPos (g :: gs) pos') (newList []) (firstAsync (g :: gs)) (firstIter (g :: gs) env) (some fun v => assign (.Name x p) env v)) _ E s
  have ha : firstAsync (g :: gs) = false:=firstAsync_ok (ite_inv hc).1.2
  rw [ha]
  refine wpAny_bind (listComp_use (r:=evq T n) G (hs.symm ▸ Sx) (hs.symm ▸ St') (hs.symm ▸ rm.le (Nat.le_succ n)) (use:=some fun v => assign (.Name x p) env v) hc F K fun D C h' tk m hD hC hCD k rep hm => ?_)
  have nS : ¬ Sl env C:=fun z => by obtain ⟨o,ho⟩:=F.slot_old z;rw [hC] at ho;cases ho
  have F₁ : Fx prog w hb sc hF (fun a => O a ∨ a = C) h' env ρ:=F.grow k (fun a z => .inl z) (fun a z => z.imp_right fun (q : a = C) => q ▸ hC) fun a z => z.elim (F.F.old.keep k a) fun q => let ⟨o,_,_,ho,_⟩:=hm;⟨o,q ▸ ho⟩
  refine wpAny_assign_Name (F₁.store (s:={ s with heap:=h',toks:=tk }) hx rep.rep fun h'' tk'' F'' kO kp ζ => ⟨m,ns_alike hm fun o e => kO C o (fun z => nS z.2) e,fun h₃ sb => wpAny_pure ?_⟩)
  have kI : KeepBut (· = C) h'' h₃:=KeepBut.of_sameBut sb rfl
  have F₃:=F''.dropI (I:=C) (.inr rfl) nS (F.F.keep.none hC) kI
  rw [less_addI (F.F.old.not hC)] at F₃
  obtain ⟨mL',hn',_⟩:=F''.F.ns
  refine hQ h₃ _ F₃ ?_ ((((Kept.of_keep (sc:=sc) hnL k).trans kp).trans (Kept.of_off hn' kI nS)).mono fun y hy => by simpa using hy)
  intro b o nb eb
  obtain ⟨o₁,e₁,a₁⟩:=k b o eb
  have hbC : b ≠ C:=fun q => by subst q;rw [hC] at eb;cases eb
  obtain ⟨o₂,e₂,a₂⟩:=kO b o₁ (fun z => nb ⟨⟨z.1.1.elim id fun q => absurd q hbC,z.1.2⟩,z.2⟩) e₁
  exact ⟨o₂,sb.extBut b o₂ hbC e₂,a₁.trans a₂⟩
theorem asgC_ok (G : Gl prog w T hb mg mb) (rm : Rm true hb n A) {e : Expr} {pos p : Pos} {x : Str} {d : PyData} (hc : isCompE e = false ∧ isSetC e = false) (h : (evq T n).ex sc ρ e = some d) (hx : isOwn (sc.lookup x) = true) (F : Fx prog w hb sc hF O s.heap env ρ) (K : Stk hb A s.heap)
  {Q : Flow → Shared → Prop} (hQ : ∀ h' tk,Fx prog w hb sc hF O h' env (setV ρ x d) → KeepBut (OwnS hF O env) s.heap h' → Kept env sc [x] s.heap h' → Q .next { s with heap:=h',toks:=tk }) :
  wpAny (model prog w) A (exec (.Assign [.Name x p] e pos) env) Q E s:=by
 obtain ⟨mL,hnL,_⟩:=F.F.ns
 refine assign_name_rule ((evq_ok G n).1 _ _ _ _ h A s env hF O _ _ rm F K fun v s₁ ps => ?_) (fun z => nomatch hc.1.symm.trans z) hc.2
 obtain ⟨h₁,tk₁,rfl,k1,rv⟩:=ps
 exact (F.keeps k1).store (s:={ s with heap:=h₁,toks:=tk₁ }) hx rv fun h' tk F' kO kp ζ => hQ h' tk F' (k1.but.trans kO) (((Kept.of_keep (sc:=sc) hnL k1).trans kp).mono fun y hy => hy)
end
end
section
variable [bs : Base]
noncomputable def hdB (s : Stmt) : List Stmt:=if h : s.ctorIdx = 17 then Stmt.Try.elim (motive_2:=fun ζ => List Stmt) s h fun ζ hs ζ ζ ζ => (match hs with | .ExceptHandler _ _ b _ :: _ => b | [] => []) else []
noncomputable def heldE : Expr:=svE (nth (hdB (nth triedF.body 1)) 0)
noncomputable def wholeE : Expr:=svE (nth (hdB (nth triedF.body 1)) 1)
section
variable {prog : Program} {w : World} {hb : Heap} {mg mb : Str → Option Value} {n : Nat} {A : Around} {s : Shared} {env : Env} {E : Value → Shared → Prop}
variable {hF : Heap} {O : Addr → Prop} {D : Addr} {qs fin : List (Addr × List Str)} {ρ : Vars} {ws : List (List Str)} {nd : PyData}
set_option maxRecDepth 10000 in
theorem tried_try (G : GroundA prog w hb mg mb) (rm : Rm false hb 60 A) {l : List Env} {L0 : Addr} (hfr : A.frames = some (env :: l)) (hf : env.frame = some L0) (x : TR prog w hb hF O env A D qs (rho0 ws nd) s.heap) (hb0 : ∀ p ∈ qs,hb.get? p.1 = none) (hok : ∀ p ∈ qs,OkRow p.2) (hlen : qs.length ≤ 1000) (hbnd : ((qs.map (·.2)).map List.length).sum ≤ 1000000) {out : Option (List Str)} {rest : List (List Str)} (hc : C3 (qs.map (·.2)) [] out rest)
  (hno : out = none → ∃ held,(evq tab0 40).ex triedF.names (rho1 ws nd rest) heldE = some held ∧ (evq tab0 40).ex triedF.names (setV (rho1 ws nd rest) (Str.ofString "held") held) wholeE = some (.bool true)) {Q : Flow → Shared → Prop}
  (hQ : ∀ l,out = some l → ∀ fin h' tk,fin.map (·.2) = rest → TR prog w hb hF O env A D fin (setV (rho0 ws nd) (Str.ofString "order") (rowT l)) h' → Q .next { s with heap:=h',toks:=tk })
  (hR : out = none → ∀ h' tk t,Keep hF h' → Q (.ret (.str (Str.ofString "refused") t)) { s with heap:=h',toks:=tk }) : wpAny (model prog w) A (exec (nth triedF.body 1) env) Q E s:=by
 have eS : nth triedF.body 1 = nth triedF.body 1:=rfl
 conv at eS => rhs;whnf
 rw [eS]
 refine wpAny_Try_except ?_
 show wpAny _ _ (execs (svB (nth triedF.body 1)) env) _ _ _
 rw [show svB (nth triedF.body 1) = [nth (svB (nth triedF.body 1)) 0] from rfl]
 refine execs_cons (tried_merge G rm x hb0 hok hlen hbnd hc (fun l e fin h' tk e2 x' => ?_) fun e0 fin h₁ h₂ tk e e2 x₁ f ln => ?_)
 ·show wpAny _ _ (execs [] env) _ _ _
  refine wpAny_of_eq (PySem.execs_nil env) ?_
  show wpAny _ _ (execs [] env) _ _ _
  exact wpAny_of_eq (PySem.execs_nil env) (hQ l e fin h' tk e2 x')
 ·obtain ⟨held,hh,hw⟩:=hno e0
  have gG:=(G.AO 0).bd.G
  refine note_next (s:={ s with heap:=h₂,toks:=tk }) hfr hf (x₁.K.keep f.keep) f fun h₃ f3 K₃ l3 => ?_
  refine flight_ok (hb:=hb) (fr:=none) (s:={ s with heap:=h₃,toks:=tk }) f3 fun h₄ f4 ζ l4 => ?_
  have x₄:=x₁.keepBut f4.keep
  obtain ⟨t0,tk0,at0,_⟩:=f4.at
  refine wpAny_handleBy_builtin_as (X:="RuntimeError") (T:="RuntimeError") (b:=true) PySem.F.isExc_RuntimeError PySem.F.notTuple_RuntimeError PySem.F.self_RuntimeError ?_
  refine Calls.Name_function_global x₄.F.F.kind (x₄.F.F.glo _ (by kernel_rfl)) (Calls.loadGlobal_builtin (by rw [x₄.F.F.glob];exact ns_keep gG.g x₄.F.base) G.hmg (by rw [x₄.F.F.blt];exact ns_keep gG.b x₄.F.base) G.hmb ⟨rfl,at0.typeIs,?_⟩) (dbg (s:={ s with heap:=h₄,toks:=tk }) (k:=.globalImplicit) x₄.F (by kernel_rfl))
  simp only [if_true]
  refine flight_ok (hb:=hb) (fr:=none) (s:={ s with heap:=h₄,toks:=tk }) f4 fun h₅ f5 ζ l5 => ?_
  have x₅:=x₁.keepBut f5.keep
  refine x₅.F.F.storeV (s:={ s with heap:=h₅,toks:=tk }) (.inl (by kernel_rfl)) rfl fun h₆ tk₆ F₆ k6 kp6 vi6 => ?_
  have x₆ : TR prog w hb hF O env A D fin (rho0 ws nd) h₆:=⟨⟨F₆,x₁.F.kb,x₁.F.onew⟩,x₅.K.off x₅.F.F (k6.mono fun b z => z.2) kp6.lc fun a z => .inl z,kp6.vk _ _ (by rw [List.mem_singleton,ofString_iff];decide) x₅.v,x₅.pl.off k6 fun z => x₁.nD.1 (x₁.sl _ z.2),x₅.rows.off k6 fun p hp z => (x₁.new p hp).2.2 z.2,x₁.nd,x₁.new,x₁.nD,x₁.sl⟩
  have slE : ∀ b,Sl env b → ∃ o,h₁.get? b = some o:=fun b z => x₁.F.F.slotEx z
  obtain ⟨t7,tk7,oe,vs,g1,g2,g3,g4,n7,pt7⟩:=f5.keeps (k6.mono fun b z => z.2) slE (by simp)
  have nS : ¬ Sl env e:=fun z => by obtain ⟨o,ho⟩:=slE e z;rw [f.new] at ho;cases ho
  have two : vs[2]? = some .none:=by
   obtain ⟨oe',vs',q1,q2,q3⟩:=l5 (l4 (l3 ln))
   obtain ⟨oe'',_,_,p1,p2,_⟩:=f5.tb
   cases q1.symm.trans p1
   cases (k6.same (fun z => nS z.2) q1 (by rw [p2];simp)).symm.trans g1
   cases q2.symm.trans g3
   exact q3
  have cf : oe.cls ≠ .type "frame":=by rw [g2];simp
  obtain ⟨F₇,K₇,G₇,he⟩:=quiet_base x₆.see x₆.K gG g1 cf fun z => by
   have:=x₁.F.F.old.not f.new
   exact this (.inl z)
  have rm₇ : Rm true (only h₆ (domE hb e)) 40 (A.mark (some (.ref e))):=⟨nofun,.inr ⟨e,oe,vs,rfl,he,cf,g3,two⟩,by have:=rm.depth;show A.depth + 40 < _;omega,by have:=rm.units;show A.units + 3 * 40 + 100 < _;omega⟩
  rw [e2] at F₇
  refine execs_cons (asgQ_ok (n:=39) (A:=A.mark (some (.ref e))) (s:={ s with heap:=h₆,toks:=tk₆ }) G₇ rm₇ hh (show isOwn (triedF.names.lookup (Str.ofString "held")) = true by kernel_rfl) F₇ K₇ fun h₈ tk₈ F₈ k8 kp8 => ?_)
  have K₈ : Stk (only h₆ (domE hb e)) (A.mark (some (.ref e))) h₈:=Stk.off K₇ F₇.F (k8.mono fun b z => z.2) kp8.lc fun a z => .inl z
  refine execs_cons (asgC_ok (n:=40) (A:=A.mark (some (.ref e))) (s:={ s with heap:=h₈,toks:=tk₈ }) G₇ rm₇ ⟨rfl,rfl⟩ hw (show isOwn (triedF.names.lookup (Str.ofString "whole")) = true by kernel_rfl) F₈ K₈ fun h₉ tk₉ F₉ k9 kp9 => ?_)
  have v9:=kp9.vk _ _ (by rw [List.mem_singleton,ofString_iff];decide) (kp8.vk _ _ (by rw [List.mem_singleton,ofString_iff];decide) vi6)
  have k69 : KeepBut (Sl env) h₆ h₉:=(k8.mono fun b z => z.2).trans (k9.mono fun b z => z.2)
  have e9:=k69.same nS g1 cf
  have nt : ¬ Sl env t7:=fun z => z.elim (fun q => by
   obtain ⟨_,⟨o,es,ep,ho,hd,_⟩,_⟩:=x₆.F.F.ns
   rw [← q,pt7] at ho;cases ho;cases hd) fun ⟨y,hy⟩ => by
   obtain ⟨ov,o,ho,hd⟩:=x₆.F.F.allc y _ hy
   rw [pt7] at ho;cases ho;cases hd
  have p9:=k69.same nt pt7 (by simp)
  have uA : (A.mark (some (.ref e))).units + 2 < cLine:=by have:=rm.units;show A.units + 2 < _;omega
  refine execs_cons (wpAny_Return_some (wpAny_IfExp (isTrue_and (isTrue_plain (F₉.F.name (s:={ s with heap:=h₉,toks:=tk₉ }) (d:=.bool true) (by kernel_rfl) (.inl (by kernel_rfl)) fun v r => truth_rule r rfl fun tkA => ?_) rfl))))
  simp only [if_true]
  refine isTrue_and (wpAny_isTrue_Compare1 (wpAny_Call_Name_kw (nameB_ok G₇ (F₉ : Fx prog w (only h₆ (domE hb e)) triedF.names (only h₆ (domE hF e)) O ({ s with heap:=h₉,toks:=tkA } : Shared).heap env _) (by kernel_rfl) (by decide +kernel : blts.lookup (Str.ofString "str") = some "str") ?_)))
  rw [starEach_cons rfl,backTo_cons]
  refine callWith_blt rfl (Calls.evalArgs_plain (Calls.spliced_cons (v9.name (s:={ s with heap:=h₉,toks:=tkA }) F₉.F (Calls.spliced_nil ?_))))
  show wpAny _ _ (call (.type "str") [.ref e]) _ _ _
  refine PySem.P.str_of_exc_one PySem.F.excStr_RuntimeError uA ⟨oe,vs,e9,g2,g3,g4⟩ ⟨_,n7,p9,rfl,rfl⟩ (Calls.Constant_str (PyProof.Rows.eq_str (wpAny_truthy_bool ?_)))
  rw [if_pos (beq_self_eq_true _)]
  refine isTrue_and_nil ?_
  rw [if_pos rfl]
  refine Calls.Constant_str ?_
  refine nameGoes_ok (s:={ s with heap:=h₉,toks:=_ }) F₉.F (by kernel_rfl) (by kernel_rfl) fun h' tk' F' ζ ζ => hR e0 h' tk' _ ((domE_keep x₆.F.F.keep).trans F'.keep)
end
end
section
variable [bs : Base]
noncomputable def TriedOk (ws : List (List Str)) (nd : PyData) (res : Str) : Prop:=∃ out rest,C3 ws [] out rest ∧
 (∀ l,out = some l → ∃ σ,(evs TA 60).ss triedF.names none ⟨(Str.ofString "rows",.list (rest.map rowT)) :: setV (rho0 ws nd) (Str.ofString "order") (rowT l),none⟩ [nth triedF.body 2,nth triedF.body 3] = some (.ok (.ret (.str res),σ))) ∧
 (out = none → res = Str.ofString "refused" ∧ ∃ held,(evq tab0 40).ex triedF.names (rho1 ws nd rest) heldE = some held ∧ (evq tab0 40).ex triedF.names (setV (rho1 ws nd rest) (Str.ofString "held") held) wholeE = some (.bool true))
section
variable {prog : Program} {w : World} {hb : Heap} {mg mb : Str → Option Value} {n : Nat} {A : Around} {s : Shared} {env : Env} {E : Value → Shared → Prop}
variable {hF : Heap} {O : Addr → Prop} {ws : List (List Str)} {nd : PyData}
set_option maxRecDepth 10000 in
theorem tried_rule (G : GroundA prog w hb mg mb) (rm : Rm false hb 75 A) (kb : Keep hb s.heap) (K : Stk hb A s.heap) (old : Old O s.heap) (onew : ∀ a,O a → hb.get? a = none) (h1 : ws.length ≤ 1000) (h2 : ∀ w ∈ ws,w.length ≤ 1000) (hok : ∀ w ∈ ws,OkRow w) (hbnd : (ws.map List.length).sum ≤ 1000000) {res : Str} (ht : TriedOk ws nd res)
  {vw vn : Value} (rw' : Rep prog w O s.heap vw (.list (ws.map rowT))) (rn : Rep prog w O s.heap vn nd) {Q : Value → Shared → Prop} (hQ : ∀ v s',Post prog w O s s' v (.str res) → Q v s') :
  ∃ a,mg (Str.ofString "_law_tried") = some (.ref a) ∧ (∃ o fd,hb.get? a = some o ∧ o.cls ≠ .type "frame" ∧ o.data = .func fd) ∧ wpAny (model prog w) A (call (.ref a) [vw,vn]) Q E s:=by
 obtain ⟨out,rest,hc,hy,hn⟩:=ht
 have hpar : triedF.params = [Str.ofString "way",Str.ofString "named"]:=rfl
 obtain ⟨l,hl,_⟩:=id K
 obtain ⟨a,ha,hd,call⟩:=fn_rule (prog:=prog) (w:=w) (R:=fun r s' => match r with | .ok (.ret v) => Q v s' | .ok _ => False | .error e => E e s') (O:=O) (ρ:=rho0 ws nd) (n:=72) (F:=triedF) G.FT (G.AO 0).bd.G.lim (rm.le (by decide)) kb old onew (vs:=[vw,vn]) rfl
  (fun x d e => zip_rep (ps:=triedF.params) (ds:=[.list (ws.map rowT),nd]) (.cons rw' (.one rn)) x d e) (fun env O₁ h' tk ent => by
   have rm' : Rm false hb 72 (A.deeper env):=(rm.le (show 73 ≤ 75 by decide)).deeper env
   have hfr : (A.deeper env).frames = some (env :: l):=by show A.frames.map _ = _;rw [hl];rfl
   show wpAny _ _ (execs triedF.body env) _ _ _
   rw [show triedF.body = [nth triedF.body 0,nth triedF.body 1,nth triedF.body 2,nth triedF.body 3] from rfl]
   have fin : ∀ h₂ tk₂ (t : Tok),Keep s.heap h₂ → Q (.str res t) { s with heap:=h₂,toks:=tk₂ }:=fun h₂ tk₂ t k => hQ _ _ ⟨h₂,tk₂,rfl,k,.str _ _⟩
   refine execs_cons (tried_rows (s:={ s with heap:=h',toks:=tk }) G (rm'.le (by decide)) ent.F (ent.stk K) h1 h2 fun D qs h₁ tk₁ e x => ?_)
   have hq : ∀ p ∈ qs,p.2 ∈ ws:=fun p hp => e ▸ lMr ⟨p,hp,rfl⟩
   refine execs_cons (tried_try (s:={ s with heap:=h₁,toks:=tk₁ }) G (rm'.le (by decide)) hfr ent.frame x (fun p hp => x.F.onew _ (.inr (lMr ⟨p,hp,rfl⟩))) (fun p hp => hok _ (hq p hp)) (by rw [← List.length_map (·.2),e];exact h1) (by rw [e];exact hbnd) (e.symm ▸ hc) (fun z => (hn z).2) (fun l' el fin' h₂ tk₂ e2 x₂ => ?_) fun z h₂ tk₂ t k => (hn z).1 ▸ fin h₂ tk₂ t k)
   obtain ⟨σ,hs⟩:=hy l' el
   exact tried_told (s:={ s with heap:=h₂,toks:=tk₂ }) G (rm'.le (by decide)) x₂ (by rw [e2];exact hs) fun h₃ tk₃ t k => fin h₃ tk₃ t k)
 exact ⟨a,ha,hd,wpAny_call call⟩
end
end
section
variable [bs : Base]
open PySem.SeqAt PySem.AutoSeq1 PySem.MeetsSeq PySem.MeetsSeq2 PySem.MeetsSeq3 PySem.SeqRoads2
section
variable {prog : Program} {w : World} {A : Around} {s : Shared} {E : Value → Shared → Prop} {O : Addr → Prop}
noncomputable def EqHere (prog : Program) (w : World) (A : Around) (s : Shared) (x y : Value) : Prop:=∀ (E : Value → Shared → Prop) (Q : Bool → Shared → Prop),Q true s → wpAny (model prog w) A (eqBool x y) Q E s
theorem tuples_ne {a b : Addr} {us ws : List Value} {Q : Value → Shared → Prop} (hl : PT s.heap a us) (hr : PT s.heap b ws) (hlen : us.length = ws.length) (hu : A.units < cLine) (he : ∀ p ∈ us.zip ws,EqHere prog w A.in1 s p.1 p.2) (h : Q (.bool false) s) :
  wpAny (model prog w) A (compareOp .NotEq (.ref a) (.ref b)) Q E s:=by
 obtain ⟨na,hl⟩:=hl
 obtain ⟨nb,hr⟩:=hr
 refine wpAny_richCompare_same_room (op:=.NotEq) ⟨_,hl,rfl⟩ ⟨_,hr,rfl⟩ F.slot_tuple_ne (wpAny_call_entry F.slot_tuple_ne ⟨_,hl,rfl⟩ F.entry_tuple_ne ?_ (F.args_tuple_ne_2 _ _)) hu
 have f2:=AutoSeq1.sub_tuple_tuple
 obtain ⟨hp,g,d,tk,os⟩:=s
 wp_walk using wpAny_loadPart' hl,wpAny_loadPart' hr,wpAny_forIn_list _ (fun rest q s' => q.1 = none ∧ s' = ⟨hp,g,d,tk,os⟩ ∧ ∀ p ∈ rest,EqHere prog w A.in1 ⟨hp,g,d,tk,os⟩ p.1 p.2) _
 case turn =>
  rintro ⟨y,x⟩ rest q s' ⟨hb',rfl,hz⟩
  refine wpAny_bind (hz (y,x) List.mem_cons_self _ _ ?_)
  wp_walk
  exact ⟨rfl,rfl,fun p hp => hz p (List.mem_cons_of_mem _ hp)⟩
 case fin =>
  rintro ⟨b1,b2⟩ s' ⟨hb',rfl,_⟩
  simp only at hb'
  subst hb'
  wp_walk
  refine ⟨_,rfl,?_⟩
  have e : Builtin.Tuple.tupleCompareSizes .NotEq us.toArray.size ws.toArray.size = .bool false:=by
   simp [Builtin.Tuple.tupleCompareSizes,hlen]
  rw [e]
  exact ⟨(fun x => nomatch x),h⟩
 case h => exact ⟨rfl,rfl,by simpa using he⟩
theorem zip_eq {ds : List PyData} : ∀ {us ws : List Value},RepAll prog w O s.heap us ds → RepAll prog w O s.heap ws ds → (∀ d ∈ ds,∀ v1 v2,Rep prog w O s.heap v1 d → Rep prog w O s.heap v2 d → EqAt A s v1 v2 true) → ∀ p ∈ us.zip ws,EqAt A s p.1 p.2 true:=by
 induction ds with
 | nil => intro us ws r _ _ p hp;rw [show us = [] from r.is] at hp;cases hp
 | cons d ds ih =>
  intro us ws r q h p hp
  obtain ⟨u,us,rfl,ru,r⟩:=r.is
  obtain ⟨x,ws,rfl,rx,q⟩:=q.is
  rw [List.zip_cons_cons] at hp
  rcases cMp hp with rfl | hp
  ·exact h d List.mem_cons_self _ _ ru rx
  ·exact ih r q (fun d hd => h d (List.mem_cons_of_mem _ hd)) p hp
theorem at_zip {us ws : List Value} (h : ∀ p ∈ us.zip ws,EqAt A s p.1 p.2 true) (j : Nat) (h1 : j < us.toArray.size) (h2 : j < ws.toArray.size) : EqAt A s us.toArray[j] ws.toArray[j] true :=
 h (us[j],ws[j]) (List.mem_iff_getElem.mpr ⟨j,by rw [List.length_zip];exact Nat.lt_min.mpr ⟨h1,h2⟩,List.getElem_zip⟩)
noncomputable def dk : Nat → PyData → Bool
 | _,.str _ => true
 | _,.int _ => true
 | k + 1,.list xs => xs.all (dk k)
 | k + 1,.tuple xs => xs.all (dk k)
 | _,_ => false
theorem dk_eq : ∀ (k : Nat) (d : PyData),dk k d = true → ∀ (A : Around) (v1 v2 : Value),A.units + k < cLine → Rep prog w O s.heap v1 d → Rep prog w O s.heap v2 d → EqAt A s v1 v2 true:=by
 have flat : ∀ (A : Around) (v1 v2 : Value) (x : Str),Rep prog w O s.heap v1 (.str x) → Rep prog w O s.heap v2 (.str x) → EqAt A s v1 v2 true:=fun A v1 v2 x r1 r2 => r1.strE fun t => r2.strE fun u => by
  have:=EqAt.str_str (A:=A) (s:=s) x t x u
  rwa [beq_self_eq_true] at this
 have num : ∀ (A : Around) (v1 v2 : Value) (x : Int),Rep prog w O s.heap v1 (.int x) → Rep prog w O s.heap v2 (.int x) → EqAt A s v1 v2 true:=fun A v1 v2 x r1 r2 => r1.intE fun t => r2.intE fun u => by
  have:=EqAt.int_int (A:=A) (s:=s) x t x u
  rwa [beq_self_eq_true] at this
 intro k
 induction k with
 | zero =>
  intro d hd A v1 v2 _ r1 r2
  cases d with
  | str x => exact flat A _ _ x r1 r2
  | int x => exact num A _ _ x r1 r2
  | _ => cases hd
 | succ k ih =>
  intro d hd A v1 v2 hu r1 r2
  have hu' : A.in1.units + k < cLine:=by show A.units + 1 + k < cLine;omega
  cases d with
  | str x => exact flat A _ _ x r1 r2
  | int x => exact num A _ _ x r1 r2
  | list xs =>
   obtain ⟨a,us,rfl,_,pl,rs⟩:=r1.is
   obtain ⟨b,ws,rfl,_,pl',rs'⟩:=r2.is
   by_cases e : a = b
   ·exact e ▸ EqAt.same _
   have:=RcAt.lists (A:=A) (e:=fun ζ => true) pl.isList pl'.isList (by rw [List.size_toArray,List.size_toArray,rs.length,rs'.length]) (by omega) (at_zip (zip_eq (A:=A.in1) rs rs' fun d hm v1 v2 => ih d (List.all_eq_true.mp hd d hm) _ v1 v2 hu'))
   rw [show ((List.range us.toArray.size).all fun ζ => true) = true by simp] at this
   exact .of_refs e this
  | tuple xs =>
   obtain ⟨a,us,rfl,_,pl,rs⟩:=r1.is
   obtain ⟨b,ws,rfl,_,pl',rs'⟩:=r2.is
   by_cases e : a = b
   ·exact e ▸ EqAt.same _
   have:=RcAt.tuples (A:=A) (e:=fun ζ => true) pl.isTuple pl'.isTuple (by omega) (at_zip (zip_eq (A:=A.in1) rs rs' fun d hm v1 v2 => ih d (List.all_eq_true.mp hd d hm) _ v1 v2 hu'))
   rw [show ((List.range (min us.toArray.size ws.toArray.size)).all (fun ζ => true) && us.toArray.size == ws.toArray.size) = true by simp [rs.length,rs'.length]] at this
   exact .of_refs e this
  | _ => cases hd
theorem hits_all {kb : List (Str × Value)} : ∀ {ka kb' : List (Str × Value)},ka.map (·.1) = kb'.map (·.1) → (∀ p ∈ kb',valueAt kb p.1 = some p.2) → (∀ p ∈ (ka.map (·.2)).zip (kb'.map (·.2)),EqAt A s p.1 p.2 true) → KeqHits A s kb ka true:=by
 intro ka
 induction ka with
 | nil => intros;exact .nil
 | cons p ka ih =>
  intro kb' e hv he
  cases kb' with
  | nil => cases e
  | cons q kb' =>
   rw [List.map_cons,List.map_cons] at e
   injection e with e1 e2
   have h:=he (p.2,q.2) List.mem_cons_self
   exact (KeqHits.hit (by rw [show p.1 = q.1 from e1];exact hv q List.mem_cons_self) h (ih e2 (fun p hp => hv p (List.mem_cons_of_mem _ hp)) fun p hp => he p (List.mem_cons_of_mem _ hp)) : KeqHits A s kb ((p.1,p.2) :: ka) (true && true))
theorem dict_eq {kvs : List (PyData × PyData)} {k : Nat} (hd : kvs.all (fun p => dk k p.2) = true) (hu : A.units + k + 2 < cLine) {v1 v2 : Value} (r1 : Rep prog w O s.heap v1 (.dict kvs)) (r2 : Rep prog w O s.heap v2 (.dict kvs)) : EqHere prog w A s v1 v2:=by
 obtain ⟨a,ea,xa,rfl,e1,_,na,da,ra⟩:=r1.is
 obtain ⟨b,eb,xb,rfl,e2,_,nb,db,rb⟩:=r2.is
 have la:=ra.length
 have lb:=rb.length
 rw [List.length_map] at la lb
 have k1:=congrArg (List.map Prod.fst) (e1.symm.trans e2)
 have k2:=congrArg (List.map Prod.snd) (e1.symm.trans e2)
 rw [List.map_fst_zip (by rw [List.length_map];omega),List.map_fst_zip (by rw [List.length_map];omega)] at k1
 rw [List.map_snd_zip (by rw [List.length_map];omega),List.map_snd_zip (by rw [List.length_map];omega)] at k2
 subst k2
 have ek : ea.map (·.1) = eb.map (·.1):=by
  have:=congrArg (List.map fun d : PyData => match d with | .str x => x | _ => Str.empty) k1
  rwa [List.map_map,List.map_map] at this
 intro E Q hQ
 by_cases hab : a = b
 ·exact hab ▸ EqAt.same (A:=A) (s:=s) (.ref a) prog w E Q hQ
 unfold eqBool
 refine wpAny_holding (wpAny_ite_split (fun q => absurd (Value.ref.inj (eq_of_beq q)) hab) fun ζ => wpAny_bind ?_)
 have nd : (eb.map (·.1)).Nodup:=let ⟨o,_,h⟩:=Heap.dictOf_iff.mp db;keysNodup_of_isDictOf h
 refine keq_eq (beq_eq_false_iff_ne.mpr na) (beq_eq_false_iff_ne.mpr nb) da db (by omega) (r:=true) (fun ζ => hits_all ek (fun p hp => ?_) (zip_eq (A:=A.in1) ra rb fun d hm v1 v2 => dk_eq k d ?_ _ v1 v2 (by show A.units + 1 + k < cLine;omega))) ?_
 ·obtain ⟨i,hi,rfl⟩:=List.mem_iff_getElem.mp hp
  exact valueAt_of_get nd (List.getElem?_eq_getElem hi)
 ·have : d ∈ kvs.map (·.2):=by rw [e1,List.map_snd_zip (by rw [List.length_map];omega)];exact hm
  obtain ⟨p,hp,rfl⟩:=lMp this
  exact List.all_eq_true.mp hd p hp
 ·rw [show (ea.length == eb.length && true) = true by simp;omega]
  exact wpAny_truthy_bool hQ
theorem told_ne {kvs : List (PyData × PyData)} {xs ys : List PyData} (h1 : kvs.all (fun p => dk 4 p.2) = true) (h2 : dk 4 (.list xs) = true) (h3 : dk 4 (.list ys) = true) (hu : A.units + 80 < cLine) {v1 v2 : Value} (r1 : Rep prog w O s.heap v1 (.tuple [.dict kvs,.list xs,.list ys])) (r2 : Rep prog w O s.heap v2 (.tuple [.dict kvs,.list xs,.list ys])) {Q : Value → Shared → Prop} (h : Q (.bool false) s) :
  wpAny (model prog w) A (compareOp .NotEq v1 v2) Q E s:=by
 obtain ⟨a,us,rfl,_,pl,rs⟩:=r1.is
 obtain ⟨b,ws,rfl,_,pl',rs'⟩:=r2.is
 refine tuples_ne pl pl' (rs.length.trans rs'.length.symm) (by omega) (fun p hp => ?_) h
 obtain ⟨u1,us,rfl,q1,rs⟩:=rs.is
 obtain ⟨u2,us,rfl,q2,rs⟩:=rs.is
 obtain ⟨u3,us,rfl,q3,rs⟩:=rs.is
 obtain ⟨w1,ws,rfl,s1,rs'⟩:=rs'.is
 obtain ⟨w2,ws,rfl,s2,rs'⟩:=rs'.is
 obtain ⟨w3,ws,rfl,s3,rs'⟩:=rs'.is
 cases (show us = [] from rs.is)
 simp only [List.zip_cons_cons,List.zip_nil_left,List.mem_cons,List.not_mem_nil,or_false] at hp
 have hu' : A.in1.units + 4 < cLine:=by show A.units + 1 + 4 < cLine;omega
 rcases hp with rfl | rfl | rfl
 ·exact dict_eq h1 (by show A.units + 1 + 4 + 2 < cLine;omega) q1 s1
 ·exact fun E Q hq => dk_eq 4 _ h2 _ _ _ hu' q2 s2 prog w E Q hq
 ·exact fun E Q hq => dk_eq 4 _ h3 _ _ _ hu' q3 s3 prog w E Q hq
end
end
section
variable [bs : Base]
section
variable {prog : Program} {w : World} {hb : Heap} {mg mb : Str → Option Value} {A : Around} {hF : Heap} {env : Env} {s : Shared} {O O' : Addr → Prop} {ρ ρ' : Vars} {V : Heap → Prop} {Q : Flow → Shared → Prop} {E : Value → Shared → Prop}
structure LI (prog : Program) (w : World) (hb hF : Heap) (O : Addr → Prop) (A : Around) (env : Env) (V : Heap → Prop) (h : Heap) (ρ : Vars) : Prop where
 F : Fx prog w hb lawF.names hF O h env ρ
 K : Stk hb A h
 V : V h
noncomputable def Calm (hF : Heap) (O : Addr → Prop) (env : Env) (V : Heap → Prop) : Prop:=∀ h h',V h → KeepBut (OwnS hF O env) h h' → V h'
structure Runs (prog : Program) (w : World) (A : Around) (env : Env) (Q : Flow → Shared → Prop) (E : Value → Shared → Prop) (l : List Stmt) (s : Shared) : Prop where
 go : wpAny (model prog w) A (execs l env) Q E s
theorem LI.asg {n : Nat} {r : Evs} (B : Bd prog w TA hb mg mb mg n r) (rm : Rm false hb n A) (cV : Calm hF O env V) {l : List Stmt} {x : Str} {d : PyData} {st : Stmt} {rest : List Stmt} (hk : l = st :: rest) (hs : ∃ q p,st = .Assign [.Name x q] (svE st) p) (ho : isOwn (lawF.names.lookup x) = true)
  (h : r.ex lawF.names ρ (svE st) = some d) (e' : setV ρ x d = ρ') (I : LI prog w hb hF O A env V s.heap ρ)
  (hQ : ∀ h' tk,LI prog w hb hF O A env V h' ρ' → Runs prog w A env Q E rest { s with heap:=h',toks:=tk }) : Runs prog w A env Q E l s:=by
 rw [hk]
 constructor
 obtain ⟨q,p,e⟩:=hs
 generalize svE st = c at e h
 subst e e'
 have q₀ : Fs prog w hb lawF.names hF O s.heap env ⟨ρ,none⟩ none:=⟨I.F,.inl ⟨rfl,rfl⟩⟩
 refine execs_cons (assign_ok (ow:=none) (X:=[x]) B rm List.mem_cons_self (exO_of h) ho (fun e => nomatch e) (show OwIs none (⟨ρ,none⟩ : St) from fun ζ ζ e => nomatch e) q₀ I.K fun h' tk aft => (hQ h' tk ⟨aft.fs.F,aft.stk q₀ I.K,?_⟩).go)
 exact cV _ _ I.V (aft.keep.mono fun b z => z.elim id nofun)
theorem LI.keeps (cV : Calm hF O env V) {h h' : Heap} (I : LI prog w hb hF O A env V h ρ) (k : Keep h h') : LI prog w hb hF O A env V h' ρ :=
 ⟨I.F.keeps k,I.K.keep k,cV _ _ I.V k.but⟩
theorem LI.stored (cV : Calm hF O env V) {h h' : Heap} {X : List Str} (I : LI prog w hb hF O A env V h ρ) (F : FrI prog w lawF.names hF O h' env ρ') (k : KeepBut (OwnS hF O env) h h') (kp : Kept env lawF.names X h h') : LI prog w hb hF O A env V h' ρ' :=
 ⟨⟨F,I.F.kb,I.F.onew⟩,I.K.off I.F.F (k.mono fun b z => z.2) kp.lc fun a z => .inl z,cV _ _ I.V k⟩
theorem LI.put (cV : Calm hF O env V) {l : List Stmt} {x : Str} {d : PyData} {e : Expr} {q p : Pos} {rest : List Stmt} (hk : l = .Assign [.Name x q] e p :: rest) (hc : isCompE e = false ∧ isSetC e = false) (ho : isOwn (lawF.names.lookup x) = true) (e' : setV ρ x d = ρ') (I : LI prog w hb hF O A env V s.heap ρ)
  (he : ∀ Q : Value → Shared → Prop,(∀ v s',Post prog w O s s' v d → Q v s') → wpAny (model prog w) A (eval e env) Q E s)
  (hQ : ∀ h' tk,LI prog w hb hF O A env V h' ρ' → Runs prog w A env Q E rest { s with heap:=h',toks:=tk }) : Runs prog w A env Q E l s:=by
 rw [hk]
 constructor
 subst e'
 refine execs_cons (assign_name_rule (he _ fun v s₁ ps => ?_) (fun z => nomatch hc.1.symm.trans z) hc.2)
 obtain ⟨h₁,tk₁,rfl,k1,rv⟩:=ps
 have I₁:=I.keeps cV k1
 exact I₁.F.store (s:={ s with heap:=h₁,toks:=tk₁ }) ho rv fun h' tk F₂ k₂ kp ζ => (hQ h' tk (I₁.stored cV F₂.F k₂ kp)).go
theorem LI.skip (cV : Calm hF O env V) {l : List Stmt} {st : Stmt} {rest : List Stmt} (hk : l = st :: rest) (hs : ∃ p,st = .If (svE st) (svB st) [] p) (I : LI prog w hb hF O A env V s.heap ρ)
  (h : ∀ Q : Bool → Shared → Prop,(∀ s',PostB s s' → Q false s') → wpAny (model prog w) A (isTrue (svE st) env (eval (svE st) env)) Q E s)
  (hQ : ∀ h' tk,LI prog w hb hF O A env V h' ρ → Runs prog w A env Q E rest { s with heap:=h',toks:=tk }) : Runs prog w A env Q E l s:=by
 rw [hk]
 constructor
 obtain ⟨p,e⟩:=hs
 generalize svE st = c at e h
 generalize svB st = b at e
 subst e
 refine execs_cons (wpAny_If (h _ fun s₁ ps => ?_))
 obtain ⟨h₁,tk₁,rfl,k1⟩:=ps
 refine wpAny_of_eq (PySem.execs_nil env) ?_
 exact (hQ h₁ tk₁ (I.keeps cV k1)).go
theorem LI.ret (G : GroundA prog w hb mg mb) (rm : Rm false hb 100 A) {l : List Stmt} {st : Stmt} {rest : List Stmt} {d : PyData} (hk : l = st :: rest) (hs : ∃ p,st = .Return (some (svE st)) p)
  (h : (evs TA 100).ex lawF.names ρ (svE st) = some d) (cV : Calm hF O env V) (I : LI prog w hb hF O A env V s.heap ρ)
  (hQ : ∀ v h' tk,Keep hF h' → V h' → Rep prog w O h' v d → Q (.ret v) { s with heap:=h',toks:=tk }) : Runs prog w A env Q E l s:=by
 rw [hk]
 constructor
 obtain ⟨p,e⟩:=hs
 generalize svE st = c at e h
 subst e
 refine execs_cons (wpAny_Return_some ((G.AO 100).bd.ex _ _ _ _ h A s env hF O _ _ rm I.F I.K fun v s₁ ps => ?_))
 obtain ⟨h₁,tk₁,rfl,k1,rv⟩:=ps
 exact hQ v h₁ tk₁ (I.F.F.keep.trans k1) (cV _ _ I.V k1.but) rv
theorem LI.less {h : Heap} (I : LI prog w hb hF O A env V h ρ) (hv : ∀ x d,ρ'.lookup x = some d → ρ.lookup x = some d) : LI prog w hb hF O A env V h ρ':=⟨⟨I.F.F.vars hv,I.F.kb,I.F.onew⟩,I.K,I.V⟩
theorem slice_first {T : Tab} {n : Nat} {sc : Names} (Sx : ExOk prog w hb false (n + 2) (evs T (n + 2)).ex) (rm : Rm false hb (n + 2) A) {xs : List PyData} {x : Str} {a : Addr} {us : List Value} {m : Nat} {p1 p2 p3 p4 : Pos} {k0 : Nat} (F : Fx prog w hb sc hF O s.heap env ρ) (K : Stk hb A s.heap) (vi : VarIs s.heap env sc x (.ref a)) (hl : s.heap.IsList a us.toArray) (rs : RepAll prog w O s.heap us xs) (hlen : xs.length ≤ 100)
  {Q : Value → Shared → Prop} (hQ : ∀ v s',Post prog w O s s' v (.list (xs.take m)) → Q v s') : wpAny (model prog w) A (eval (.Subscript (.Name x p1) (.Slice none (some (.Constant (.int (m : Int)) k0 p4)) none p2) p3) env) Q E s:=by
 refine Subscript_ (vi.name F.F (wpAny_Slice (partE_ok Sx rm (k:=none) rfl F K fun vl h₂ tk₂ k2 pl => partE_ok (s:={ s with heap:=h₂,toks:=tk₂ }) Sx rm (k:=some (m : Int)) rfl (F.keeps k2) (K.keep k2) fun vu h₃ tk₃ k3 pu =>
  partE_ok (s:={ s with heap:=h₃,toks:=tk₃ }) Sx rm (k:=none) rfl ((F.keeps k2).keeps k3) ((K.keep k2).keep k3) fun vs h₄ tk₄ k4 ps => ?_)))
 have k:=((k2.trans k3).trans k4).trans (Keep.push h₄ { cls:=.type "slice",data:=.fields #[vl,vu,vs] })
 have hsl : (h₄.push { cls:=.type "slice",data:=.fields #[vl,vu,vs] }).IsSliceOf h₄.objs.size vl vu vs:=⟨_,Heap.get?_push_size _ rfl,rfl,rfl⟩
 obtain ⟨ops,hs⟩:=subscripted_any (.Slice none (some (.Constant (.int (m : Int)) k0 p4)) none p2) (.ref a) (.ref h₄.objs.size)
 have hl₄ : (h₄.push { cls:=.type "slice",data:=.fields #[vl,vu,vs] }).IsList a us.toArray:=by
  obtain ⟨o,ho,hc,hd⟩:=hl
  exact ⟨o,k.same ho (by rw [hc];exact nofun),hc,hd⟩
 have hu:=rs.length
 refine tail_any (s:={ s with heap:=h₄.push { cls:=.type "slice",data:=.fields #[vl,vu,vs] },toks:=tk₄ }) hl₄.typeIs slot_list_getitem.lookup (wpAny_getItem_list_slice hl₄ hsl pl pu ps nofun ?_ (by rw [sizeLine_eq,List.size_toArray];omega)) hs
 have r6:=(rs.keep k).pick (sliceRange (sliceBounds none (some (m : Int)) none xs.length).1 (sliceBounds none (some (m : Int)) none xs.length).2.1 (sliceBounds none (some (m : Int)) none xs.length).2.2)
 rw [show slicePick us.toArray none (some (m : Int)) none = ((sliceRange (sliceBounds none (some (m : Int)) none xs.length).1 (sliceBounds none (some (m : Int)) none xs.length).2.1 (sliceBounds none (some (m : Int)) none xs.length).2.2).filterMap (us[·]?)).toArray by unfold slicePick;rw [List.size_toArray,hu];simp]
 rw [show ((sliceRange (sliceBounds none (some (m : Int)) none xs.length).1 (sliceBounds none (some (m : Int)) none xs.length).2.1 (sliceBounds none (some (m : Int)) none xs.length).2.2).filterMap (xs[·]?)) = xs.take m from pickD_to xs m] at r6
 exact hQ _ _ (post_trans rfl k (newList_post (n:=0) (F.F.old.keep k) r6))
end
theorem law_bd {k : Nat} (h : k < 22) : lawF.body.drop k = LB k :: lawF.body.drop (k + 1):=by
 have hl : lawF.body.length = 22:=by kernel_rfl
 rw [List.drop_eq_getElem_cons (hl ▸ h)]
 unfold LB nth
 rw [List.getElem?_eq_getElem (hl ▸ h)]
 rfl
end
section
variable [bs : Base]
noncomputable abbrev sT (x : String) : PyData:=.str (Str.ofString x)
noncomputable def ownL : List Int:=[98724,82242,41072,67844,9313,15]
noncomputable def ownD : PyData:=.list (ownL.map PyData.int)
theorem ints_ex : ∀ ds : List PyData,(∀ d ∈ ds,∃ i,d = .int i) → ∃ l,intsOf ds = some l
 | [],_ => ⟨[],rfl⟩
 | d :: ds,h => by
  obtain ⟨i,rfl⟩:=h d List.mem_cons_self
  obtain ⟨l,e⟩:=ints_ex ds fun d hd => h d (List.mem_cons_of_mem _ hd)
  exact ⟨i :: l,congrArg (fun z => Option.map (i :: ·) z) e⟩
noncomputable def sumN (ts : List Int) (k : Nat) : Int:=((intsOf (pickD (ts.map PyData.int) (some (k : Int)) none (some 6))).getD []).sum
theorem sum_sixth (ts : List Int) (hl : ts.length ≤ 60) (k : Nat) : ((slice (.list (ts.map PyData.int)) (some (k : Int)) none (some 6)).bind fun d => builtin1 "sum" d) = some (.int (sumN ts k)):=by
 rw [sl_l ⟨by rw [List.length_map];unfold lim;omega,by decide⟩]
 obtain ⟨l,e⟩:=ints_ex (pickD (ts.map PyData.int) (some (k : Int)) none (some 6)) fun d hd => by
  obtain ⟨i,_,rfl⟩:=lMp (pickD_mem hd)
  exact ⟨i,rfl⟩
 show (intsOf (pickD (ts.map PyData.int) (some (k : Int)) none (some 6))).map _ = _
 unfold sumN
 rw [e]
 rfl
noncomputable def nN (ts : List Int) (k : Nat) : Nat:=((sumN ts k + (ownL[k]?).getD 0).fmod 48666116096).toNat
noncomputable def rho2 (ts : List Int) : Vars:=[(Str.ofString "taken",.list (ts.map PyData.int)),(Str.ofString "own",ownD)]
noncomputable def rho3 (N : Nat → Nat) (t : PyData) : Vars:=[(Str.ofString "taken",t),(Str.ofString "own",ownD),(Str.ofString "numbers",rowD ((List.range 6).map N))]
set_option maxRecDepth 10000 in
theorem num_eq (ts : List Int) (hl : ts.length ≤ 60) : (evs TA 100).ex lawF.names (rho2 ts) (svE (LB 2)) = some (rowD ((List.range 6).map (nN ts))):=by
 refine (compA (n:=99) (xs:=List.range 6) (Str.ofString "k") natD (fun k => natD (nN ts k)) ⟨_,rfl⟩ (by kernel_rfl) (by kernel_rfl) (by kernel_rfl) (by decide) fun k hk => ?_).trans (by rw [rowD,List.map_map];rfl)
 refine (show _ = ((((slice (.list (ts.map PyData.int)) (some (k : Int)) none (some 6)).bind fun d => builtin1 "sum" d).bind fun a => (getitem ownD (.int (k : Int))).bind fun b => binop .Add a b).bind fun c => binop .Mod c (.int 48666116096)) by kernel_rfl).trans ?_
 rw [sum_sixth ts hl k,show getitem ownD (.int (k : Int)) = some (.int ((ownL[k]?).getD 0)) from gi_nat ((List.getElem?_map ..).trans (by rw [List.getElem?_eq_getElem (List.mem_range.mp hk)];rfl)) (by decide +kernel)]
 exact congrArg (fun z => some (PyData.int z)) (Int.toNat_of_nonneg (Int.fmod_nonneg_of_pos _ (by decide))).symm
noncomputable def namesD : PyData:=.list ((List.range 4).map fun k => .str (nm k))
noncomputable def modesD (m : Nat → Int) : PyData:=.list ((List.range 4).map fun k => .int (m k))
noncomputable def wishD (w : Nat → Nat × Nat) : PyData:=.list ((List.range 5).map fun k => pairN (w k))
noncomputable def oddL : List (List String):=[["229 at 272)"],["229 at (|||7|x"],["229 at (||7|)","229 at (|||7||)"],["229 at (|||7|!)"]]
noncomputable def oddD : PyData:=.list (oddL.map fun l => .list (l.map sT))
noncomputable def spL (b : Nat → Bool) (k : Nat) : List String:=cond (b k) ((oddL[k]?).getD []) []
noncomputable def spD (b : Nat → Bool) : PyData:=.list ((List.range 4).map fun k => .list ((spL b k).map sT))
noncomputable def mN (N : Nat → Nat) (k : Nat) : Int:=((N k % 131072 : Nat) : Int) - 65536
noncomputable def dN (N : Nat → Nat) (k : Nat) : Nat:=N 4 / 13 ^ k % 13
noncomputable def wN (d : Nat) : Nat × Nat:=(d % 4,(d % 4 + d / 4 + 1) % 4)
noncomputable def bN (N : Nat → Nat) (k : Nat) : Bool:=N 5 / 2 ^ k % 2 == 1
section
variable (N : Nat → Nat) (t : PyData)
theorem own_eq (ρ : Vars) : (evs TA 100).ex lawF.names ρ (svE (LB 1)) = some ownD:=by kernel_rfl
theorem names_eq : (evs TA 100).ex lawF.names (rho3 N t) (svE (LB 3)) = some namesD:=by kernel_rfl
noncomputable def rho4 : Vars:=rho3 N t ++ [(Str.ofString "names",namesD)]
theorem modes_eq : (evs TA 100).ex lawF.names (rho4 N t) (svE (LB 4)) = some (modesD (mN N)):=by
 refine (show _ = some (PyData.list ((List.range 4).map fun k => .int ((N k : Int).fmod (131072 : Nat) - 65536))) by kernel_rfl).trans ?_
 simp only [fmodN]
 rfl
noncomputable def rho5 : Vars:=rho4 N t ++ [(Str.ofString "modes",modesD (mN N))]
set_option maxRecDepth 10000 in
theorem drawn_eq : (evs TA 100).ex lawF.names (rho5 N t) (svE (LB 5)) = some (rowD ((List.range 5).map (dN N))):=by
 refine (show _ = some (PyData.list ((List.range 5).map fun k => .int (((N 4 : Int).fdiv ((13 ^ k : Nat) : Int)).fmod (13 : Nat)))) by kernel_rfl).trans ?_
 simp only [fdivN,fmodN]
 rfl
noncomputable def rho6 : Vars:=rho5 N t ++ [(Str.ofString "drawn",rowD ((List.range 5).map (dN N)))]
theorem wishes_eq : (evs TA 100).ex lawF.names (rho6 N t) (svE (LB 6)) = some (wishD fun k => wN (dN N k)):=by
 refine (show _ = some (PyData.list ((List.range 5).map fun k => .tuple [.int ((dN N k : Int).fmod (4 : Nat)),.int (((dN N k : Int).fmod (4 : Nat) + (dN N k : Int).fdiv (4 : Nat) + (1 : Nat)).fmod (4 : Nat))])) by kernel_rfl).trans ?_
 simp only [fdivN,fmodN,← Int.natCast_add]
 rfl
noncomputable def rho7 : Vars:=rho6 N t ++ [(Str.ofString "wishes",wishD fun k => wN (dN N k))]
theorem odd_eq : (evs TA 100).ex lawF.names (rho7 N t) (svE (LB 7)) = some oddD:=by kernel_rfl
noncomputable def rho8 : Vars:=rho7 N t ++ [(Str.ofString "odd",oddD)]
set_option maxRecDepth 10000 in
theorem spoiled_eq : (evs TA 100).ex lawF.names (rho8 N t) (svE (LB 8)) = some (spD (bN N)):=by
 refine compA (n:=99) (xs:=List.range 4) (Str.ofString "k") natD (fun k => .list ((spL (bN N) k).map sT)) ⟨_,rfl⟩ (by kernel_rfl) (by kernel_rfl) (by kernel_rfl) (by decide) fun k hk => ?_
 refine (show _ = ((((binop .Pow (.int 2) (.int (k : Int))).bind fun u => binop .FloorDiv (natD (N 5)) u).bind fun a => binop .Mod a (.int (2 : Nat))).bind (fun a => cmpop .Eq a (.int (1 : Nat)))).bind (fun q => if q = true then getitem oddD (natD k) else some (.list [])) by kernel_rfl).trans ?_
 have h2 : ∀ k : Nat,k < 4 → ((2 ^ k : Nat) : Int) ≠ 0 ∧ ((2 ^ k : Nat) : Int).natAbs < 1073741824 ∧ (2 : Int) ^ k = ((2 ^ k : Nat) : Int) ∧ (2 : Int) ≤ 2 ∧ (2 : Int) < 1024 ∧ 0 ≤ (k : Int) ∧ (k : Int) < 1024:=by decide
 have hl:=List.mem_range.mp hk
 obtain ⟨q1,q2,q3,q4⟩:=h2 k hl
 have ho : getitem oddD (natD k) = some (.list (((oddL[k]?).getD []).map sT)):=gi_nat ((List.getElem?_map ..).trans (by rw [List.getElem?_eq_getElem (show k < oddL.length from hl)];rfl)) (by decide +kernel)
 rw [bo_pow q4,Option.bind_some,Int.toNat_natCast,q3,natD,bo_fdiv q1 q2,Option.bind_some,bo_mod (by decide),Option.bind_some,fdivN,fmodN,co_eqi,Option.bind_some,show (((N 5 / 2 ^ k % 2 : Nat) : Int) == ((1 : Nat) : Int)) = bN N k from Bool.eq_iff_iff.mpr (by rw [beq_iff_eq,bN,beq_iff_eq];exact Int.ofNat_inj)]
 unfold spL
 cases bN N k with
 | true => exact (if_pos rfl).trans ho
 | false => rfl
noncomputable def rhoB (m : Nat → Int) (w : Nat → Nat × Nat) (b : Nat → Bool) : Vars:=[(Str.ofString "names",namesD),(Str.ofString "modes",modesD m),(Str.ofString "wishes",wishD w),(Str.ofString "spoiled",spD b)]
end
end
section
open PySem.StrLaws PySem.Builtin.Str
variable [bs : Base]
theorem excs_mem {x : String} (h : x ∈ ["error_reply","error_proto"]) : Str.ofString x ∈ TA.excs:=by
 simp only [List.mem_cons,List.not_mem_nil,or_false] at h
 rcases h with rfl | rfl <;> simp [TA]
theorem sl3 {x y : Str} (h : Txt.slice x none (some 3) = y) (hl : x.length ≤ 1000) : slice (.str x) none (some 3) none = some (.str y):=(sl_s (by unfold lim;omega)).trans (by rw [h])
theorem p257_raise {x : Str} (h : Txt.slice x none (some 3) = Str.ofString "229") (hl : x.length ≤ 1000) : (evs TA (59 + 1)).fn (Str.ofString "parse257") [.str x] = some (.error ⟨Str.ofString "error_reply",x⟩):=by
 refine fn_eq (F:=fnAt PP none 9) (by kernel_rfl) (by rfl) ?_
 have key : (evs TA 59).ss (fnAt PP none 9).names none ⟨[(Str.ofString "resp",.str x)],none⟩ (fnAt PP none 9).body = some (.error ⟨Str.ofString "error_reply",x⟩):=ss_raise (n:=57) rfl
  ((show _ = (slice (.str x) none (some 3) none).bind (fun d => cmpop .NotEq d (.str (Str.ofString "257"))) by kernel_rfl).trans (by rw [sl3 h hl];kernel_rfl)) (by kernel_rfl) (excs_mem (by simp)) rfl (by kernel_rfl)
 exact congrArg (fun z => Rs.bind z _) key
theorem m_find (x y : Str) : method (Str.ofString "find") (.str x) [.str y] = some (.int (Txt.find x y)):=(if_neg (by rw [ofString_iff];decide)).trans (if_pos rfl)
theorem m_find3 (x y : Str) (i : Int) : method (Str.ofString "find") (.str x) [.str y,.int i] = some (.int (Txt.find3 x y i)):=(if_neg (by rw [ofString_iff];decide)).trans (if_pos rfl)
theorem m_split {x y : Str} (h : y.length ≠ 0 ∧ x.length ≤ lim) : method (Str.ofString "split") (.str x) [.str y] = some (.list ((Txt.split x y).map .str)):=(if_pos rfl).trans (if_pos h)
theorem p229_ok {x m : Str} {v : Int} {k : Nat} (h3 : Txt.slice x none (some 3) = Str.ofString "229") (hl : x.length ≤ 500) (hleft : Txt.find x (Str.ofString "(") = 15) (hright : Txt.find3 x (Str.ofString ")") 16 = (k : Int)) (hk : 17 ≤ k ∧ k < x.length)
  (he : Txt.item x 16 = Txt.item x ((k : Int) - 1)) {c : Str} (hc : Txt.item x 16 = c) (hcl : c.length = 1) (hp : Txt.split (Txt.slice x (some 16) (some (k : Int))) c = [Str.empty,Str.empty,Str.empty,m,Str.empty]) (hsl : (Txt.slice x (some 16) (some (k : Int))).length ≤ 500) (hm : PySem.intText? m = some v) (hml : m.length ≤ 640) :
  (evs TA (59 + 1)).fn (Str.ofString "parse229") [.str x,peerT] = some (.ok (.tuple [.str (Str.ofString "peer"),.int v])):=by
 refine fn_eq (F:=fnAt PP none 8) (by kernel_rfl) (by rfl) ?_
 have hl' : x.length ≤ lim:=by unfold lim;omega
 have e16 : getitem (.str x) (.int 16) = some (.str c):=(gi_s ⟨hl',by omega,by omega⟩).trans (by rw [hc])
 have ek : getitem (.str x) (.int ((k : Int) - 1)) = some (.str c):=(gi_s ⟨hl',by omega,by omega⟩).trans (by rw [← he,hc])
 have es : slice (.str x) (some 16) (some (k : Int)) none = some (.str (Txt.slice x (some 16) (some (k : Int)))):=sl_s hl'
 have em:=(m_split (x:=Txt.slice x (some 16) (some (k : Int))) (y:=c) ⟨by omega,by unfold lim;omega⟩).trans (by rw [hp])
 have key : ∃ ρ,(evs TA 59).ss (fnAt PP none 8).names none ⟨[(Str.ofString "resp",.str x),(Str.ofString "peer",peerT)],none⟩ (fnAt PP none 8).body = some (.ok (.ret (.tuple [.str (Str.ofString "peer"),.int v]),⟨ρ,none⟩)) :=
  ⟨_,(ss_skip (n:=57) ((show _ = (slice (.str x) none (some 3) none).bind (fun d => cmpop .NotEq d (.str (Str.ofString "229"))) by kernel_rfl).trans (by rw [sl3 h3 (by omega)];kernel_rfl))).trans
   ((ss_asg (n:=57) (d:=.int 15) (by kernel_rfl) ((show _ = method (Str.ofString "find") (.str x) [.str (Str.ofString "(")] by kernel_rfl).trans ((m_find _ _).trans (by rw [hleft])))).trans
   ((ss_skip (n:=55) (by kernel_rfl)).trans
   ((ss_asg (n:=55) (d:=.int k) (by kernel_rfl) ((show _ = method (Str.ofString "find") (.str x) [.str (Str.ofString ")"),.int 16] by kernel_rfl).trans ((m_find3 _ _ _).trans (by rw [hright])))).trans
   ((ss_skip (n:=53) ((show _ = some (decide ((k : Int) < 0)) by kernel_rfl).trans (by rw [decide_eq_false (by omega)]))).trans
   ((ss_skip (n:=52) ((show _ = (getitem (.str x) (.int 16)).bind (fun a => (getitem (.str x) (.int ((k : Int) - 1))).bind fun b => cmpop .NotEq a b) by kernel_rfl).trans (by rw [e16,ek];exact (co_nes c c).trans (by simp)))).trans
   ((ss_asg (n:=52) (d:=.list ([Str.empty,Str.empty,Str.empty,m,Str.empty].map .str)) (by kernel_rfl) ((show _ = (slice (.str x) (some 16) (some (k : Int)) none).bind (fun d => ((getitem (.str x) (.int 16)).bind fun e => some [e]).bind fun es => method (Str.ofString "split") d es) by kernel_rfl).trans (by rw [es,e16];exact em))).trans
   ((ss_skip (n:=50) (by kernel_rfl)).trans
   ((ss_asg (n:=50) (d:=.str (Str.ofString "peer")) (by kernel_rfl) (by kernel_rfl)).trans
   ((ss_asg (n:=49) (d:=.int v) (by kernel_rfl) ((show _ = builtin1 "int" (.str m) by kernel_rfl).trans ((if_pos hml).trans (by rw [hm];rfl)))).trans
   (ss_ret (n:=48) (by kernel_rfl)))))))))))⟩
 obtain ⟨ρ,key⟩:=key
 exact congrArg (fun z => Rs.bind z _) key
noncomputable def numS (n : Int) : Str:=Str.ofString (toString n)
noncomputable def Signs (l : List Nat) : Prop:=∀ c ∈ l,c = 45 ∨ (48 ≤ c ∧ c ≤ 57)
theorem nat_digits (m : Nat) : PySem.NumText.AllDigits (Lc (numS (m : Int))) ∧ Lc (numS (m : Int)) ≠ [] ∧ PySem.NumText.digitsVal (Lc (numS (m : Int))) = m:=by
 have h1 : Lc (numS (m : Int)) = (Nat.toDigits 10 m).map Char.toNat:=KIN.signs_num m
 refine ⟨?_,?_,by rw [h1];exact KIN.val_back m⟩
 ·intro c hc
  rw [h1] at hc
  obtain ⟨ch,hch,e⟩:=lMp hc
  have r:=digit_range (Nat.isDigit_of_mem_toDigits (by decide) (by decide) hch)
  rw [← e]
  exact r
 ·rw [h1]
  intro e
  have h:=toDigits_len_ge 10 m
  rw [List.map_eq_nil_iff.mp e] at h
  exact absurd h (by decide)
theorem neg_Lc (m : Nat) : Lc (numS (-((m + 1 : Nat) : Int))) = 45 :: Lc (numS ((m + 1 : Nat) : Int)):=by
 unfold numS
 rw [Lc_ofString,Lc_ofString,show (-((m + 1 : Nat) : Int)) = Int.negSucc m from rfl]
 show (("-" ++ toString (m + 1) : String)).toList.map Char.toNat = _
 rw [String.toList_append]
 rfl
theorem num_facts {n : Int} (h : n.natAbs < 10 ^ 10) : Signs (Lc (numS n)) ∧ PySem.intText? (numS n) = some n ∧ (numS n).length ≤ 11:=by
 by_cases h0 : 0 ≤ n
 ·obtain ⟨m,rfl⟩:=Int.eq_ofNat_of_zero_le h0
  exact ⟨fun c hc => .inr ((nat_digits m).1 c hc),KIN.num_reads h0 (by omega),Nat.le_trans (KT.len_num h0 (by omega)) (by decide)⟩
 ·obtain ⟨m,rfl⟩ : ∃ m : Nat,n = -((m + 1 : Nat) : Int):=⟨(-n - 1).toNat,by omega⟩
  obtain ⟨d1,d2,d3⟩:=nat_digits (m + 1)
  have hl:=KT.len_num (n:=((m + 1 : Nat) : Int)) (by omega) (by omega)
  have hl' : (numS (-((m + 1 : Nat) : Int))).length ≤ 11:=by
   rw [len_Lc,neg_Lc,List.length_cons]
   have : (Lc (numS ((m + 1 : Nat) : Int))).length ≤ 10:=by rw [← len_Lc];exact hl
   omega
  refine ⟨fun c hc => ?_,?_,hl'⟩
  ·rw [neg_Lc] at hc
   rcases cMp hc with rfl | hc
   ·exact .inl rfl
   ·exact .inr (d1 c hc)
  ·rw [PySem.intText_neg (neg_Lc m) d1 d2 (by omega),d3]
theorem get_pre {p : List Nat} (D r : List Nat) {j : Nat} (h : j < p.length) : (p ++ D ++ r)[j]? = p[j]?:=by
 rw [List.append_assoc,List.getElem?_append_left h]
theorem get_mid (p D r : List Nat) (j : Nat) (h : j < D.length) : (p ++ D ++ r)[p.length + j]? = D[j]?:=by
 rw [List.append_assoc,List.getElem?_append_right (by omega),List.getElem?_append_left (by omega)]
 congr 1;omega
theorem get_suf (p D r : List Nat) (j : Nat) : (p ++ D ++ r)[p.length + D.length + j]? = r[j]?:=by
 rw [List.getElem?_append_right (by rw [List.length_append];omega),List.length_append]
 congr 1;omega
noncomputable def portD (n : Int) : PyData:=.tuple [.str (Str.ofString "peer"),.int n]
theorem mode_port {a : Nat} {p : List Nat} {x : Str} (n : Int) (hn : n.natAbs < 10 ^ 10) (hp13 : p.length = 19) (hp3 : p.take 3 = [50,50,57]) (hp9 : p[15]? = some 40) (hp10 : p[16]? = some a) (hpd : p.drop 16 = [a,a,a]) (q1 : ∀ j,j < 15 → p[j]? ≠ some 40) (q2 : ∀ j,j < 19 → 16 ≤ j → p[j]? ≠ some 41)
  (ha : a ≠ 41 ∧ a ≠ 45 ∧ ¬ (48 ≤ a ∧ a ≤ 57)) {rest : List Nat} (hr : rest.length ≤ 100) (hL : Lc x = p ++ Lc (numS n) ++ (a :: 41 :: rest)) :
  EffOk TA x (.port (portD n)):=by
 obtain ⟨sg,hi,hl⟩:=num_facts hn
 rw [len_Lc] at hl
 clear hn
 generalize hD : Lc (numS n) = D at sg hl hL
 have hlen : (Lc x).length = 19 + D.length + (2 + rest.length):=by
  rw [hL,List.length_append,List.length_append,hp13,List.length_cons,List.length_cons];omega
 have hxl : x.length ≤ 500:=by rw [len_Lc,hlen];omega
 have fr : ∀ c,(c = 41 ∨ c = a) → c ∉ D:=fun c hc hm => by
  rcases sg c hm with e | e <;> rcases hc with rfl | rfl <;> omega
 have pre : ∀ j,j < 19 → (Lc x)[j]? = p[j]?:=fun j hj => by rw [hL,get_pre D _ (by omega)]
 have mid : ∀ i,i < D.length → (Lc x)[19 + i]? = D[i]?:=fun i hi => by rw [hL,← hp13,get_mid p D _ i hi]
 have suf : ∀ i,(Lc x)[19 + D.length + i]? = (a :: 41 :: rest)[i]?:=fun i => by rw [hL,← hp13,get_suf]
 have h3 : Txt.slice x none (some 3) = Str.ofString "229":=(slice_to x 3 (by omega)).trans (Lc_inj (by
  rw [hL,List.append_assoc,List.take_append_of_le_length (by omega),hp3,Lc_ofString];rfl))
 have hleft : Txt.find x (Str.ofString "(") = 15:=(congrArg _ (show Str.ofString "(" = Sc [40] by kernel_rfl)).trans (find_at x 40 15 ((pre 15 (by omega)).trans hp9) fun j hj => (pre j (by omega)).symm ▸ q1 j hj)
 have hright : Txt.find3 x (Str.ofString ")") 16 = ((20 + D.length : Nat) : Int):=by
  rw [show Str.ofString ")" = Sc [41] by kernel_rfl]
  refine find3_at x 41 (20 + D.length) 16 (by omega) ((congrArg (fun i => (Lc x)[i]?) (show 20 + D.length = 19 + D.length + 1 by omega)).trans (suf 1)) fun j hj1 hj2 => ?_
  by_cases q : j < 19
  ·exact (pre j q).symm ▸ q2 j q hj1
  ·obtain ⟨i,rfl⟩ : ∃ i,j = 19 + i:=⟨j - 19,by omega⟩
   by_cases q3 : i < D.length
   ·rw [mid i q3]
    exact fun e => fr 41 (.inl rfl) (List.mem_of_getElem? e)
   ·obtain rfl : i = D.length:=by omega
    exact (suf 0).symm ▸ fun e => ha.1 (Option.some.inj e)
 have it1 : Txt.item x 16 = Sc [a]:=item_list x 16 a ((pre 16 (by omega)).trans hp10)
 have it2 : Txt.item x (((20 + D.length : Nat) : Int) - 1) = Sc [a]:=by
  rw [show (((20 + D.length : Nat) : Int) - 1) = ((19 + D.length : Nat) : Int) by omega]
  exact item_list x _ a (suf 0)
 have hs : Txt.slice x (some 16) (some ((20 + D.length : Nat) : Int)) = Sc ([a,a,a] ++ (D ++ [a])):=(slice_list x 16 (20 + D.length) (by omega) (by omega)).trans (congrArg Sc (by
  rw [hL,List.append_assoc,List.drop_append_of_le_length (by omega),hpd,show 20 + D.length - 16 = [a,a,a].length + (D.length + 1) from (by simp;omega),List.take_length_add_append,List.take_length_add_append]
  rfl))
 have hp : Txt.split (Txt.slice x (some 16) (some ((20 + D.length : Nat) : Int))) (Sc [a]) = [Str.empty,Str.empty,Str.empty,numS n,Str.empty]:=by
  rw [hs]
  refine (split_parts a [[],[],[],D,[]] (List.cons_ne_nil _ _) (fun p hp => ?_) (by simp [glueL])).trans ?_
  ·rcases cMp hp with rfl | hp
   ·exact List.not_mem_nil
   ·rcases cMp hp with rfl | hp
    ·exact List.not_mem_nil
    ·rcases cMp hp with rfl | hp
     ·exact List.not_mem_nil
     ·rcases cMp hp with rfl | hp
      ·exact fr a (.inr rfl)
      ·rw [sMp hp];exact List.not_mem_nil
  ·rw [← hD]
   show [_,_,_,Sc (Lc (numS n)),_] = _
   rw [Sc_Lc];rfl
 exact .port x _ (p257_raise h3 (by omega)) (p229_ok h3 hxl hleft hright ⟨by omega,by rw [len_Lc,hlen];omega⟩ (it1.trans it2.symm) it1 rfl hp (by rw [hs,len_Lc];simp;omega) hi (by rw [len_Lc,hD];omega))
noncomputable def markS (k : Nat) : Str:=((["|","!","x","("].map Str.ofString)[k]?).getD Str.empty
noncomputable def portS (k : Nat) (n : Int) : Str:=Str.ofString "229 it lies at (" ++ (markS k ++ markS k ++ markS k) ++ numS n ++ markS k ++ Str.ofString ") (|||7|)"
theorem port_eff (k : Nat) (hk : k < 4) (n : Int) (hn : n.natAbs < 10 ^ 10) : EffOk TA (portS k n) (.port (portD n)):=by
 have hL : ∀ k,Lc (portS k n) = (Lc (Str.ofString "229 it lies at (" ++ (markS k ++ markS k ++ markS k))) ++ Lc (numS n) ++ (Lc (markS k) ++ Lc (Str.ofString ") (|||7|)")):=fun k => by
  rw [portS,Lc_append,Lc_append,Lc_append,List.append_assoc]
 match k,hk with
 | 0,_ => exact mode_port (a:=124) n hn (by kernel_rfl) (by kernel_rfl) (by kernel_rfl) (by kernel_rfl) (by kernel_rfl) (by decide +kernel) (by decide +kernel) (by decide) (rest:=[32,40,124,124,124,55,124,41]) (by decide) (hL 0)
 | 1,_ => exact mode_port (a:=33) n hn (by kernel_rfl) (by kernel_rfl) (by kernel_rfl) (by kernel_rfl) (by kernel_rfl) (by decide +kernel) (by decide +kernel) (by decide) (rest:=[32,40,124,124,124,55,124,41]) (by decide) (hL 1)
 | 2,_ => exact mode_port (a:=120) n hn (by kernel_rfl) (by kernel_rfl) (by kernel_rfl) (by kernel_rfl) (by kernel_rfl) (by decide +kernel) (by decide +kernel) (by decide) (rest:=[32,40,124,124,124,55,124,41]) (by decide) (hL 2)
 | 3,_ => exact mode_port (a:=40) n hn (by kernel_rfl) (by kernel_rfl) (by kernel_rfl) (by kernel_rfl) (by kernel_rfl) (by decide +kernel) (by decide +kernel) (by decide) (rest:=[32,40,124,124,124,55,124,41]) (by decide) (hL 3)
end
section
variable [bs : Base]
noncomputable def wS (p : Nat × Nat) : Str:=nm p.1 ++ Str.ofString "/" ++ nm p.2
noncomputable def saidS (x : Str) (k : Nat) : Str:=if x = Str.empty ∧ k = 1 then Str.ofString "257 made" else Str.ofString "257 \"" ++ Txt.replace x (Str.ofString "\"") (Str.ofString "\"\"") ++ Str.ofString "\"" ++ (([""," made"," \"new\""].map Str.ofString)[k % 3]?).getD Str.empty
noncomputable def isS (r : Rs PyData) (y : Str) : Bool:=match r with | some (.ok (.str x)) => x == y | _ => false
theorem isS_inv {r : Rs PyData} {y : Str} (h : isS r y = true) : r = some (.ok (.str y)):=by
 unfold isS at h
 split at h
 ·rw [beq_iff_eq.mp h]
 ·cases h
noncomputable def ok4 (f : Nat → Bool) : Bool:=(List.range 4).all f
theorem ok4_at {f : Nat → Bool} (h : ok4 f = true) {k : Nat} (hk : k < 4) : f k = true:=List.all_eq_true.mp h k (List.mem_range.mpr hk)
noncomputable def W4 (p : Nat × Nat) : Prop:=p.1 < 4 ∧ p.2 < 4
theorem said_w (n : Nat) : ok4 (fun a => ok4 fun b => (List.range 5).all fun k => isS ((evs TA (n + 20)).fn (Str.ofString "_law_said") [.str (wS (a,b)),natD k]) (saidS (wS (a,b)) k)) = true:=by kernel_rfl
theorem said_n (n : Nat) : ok4 (fun k => isS ((evs TA (n + 20)).fn (Str.ofString "_law_said") [.str (nm k),natD k]) (saidS (nm k) k)) = true:=by kernel_rfl
theorem p257_w : ok4 (fun a => ok4 fun b => (List.range 5).all fun k => isS ((evs TA 60).fn (Str.ofString "parse257") [.str (saidS (wS (a,b)) k)]) (wS (a,b))) = true:=by kernel_rfl
theorem p257_n : ok4 (fun k => isS ((evs TA 60).fn (Str.ofString "parse257") [.str (saidS (nm k) k)]) (nm k)) = true:=by kernel_rfl
theorem w_at {f : Nat × Nat → Nat → Bool} (h : ok4 (fun a => ok4 fun b => (List.range 5).all fun k => f (a,b) k) = true) {p : Nat × Nat} (hp : W4 p) {k : Nat} (hk : k < 5) : f p k = true:=List.all_eq_true.mp (ok4_at (ok4_at h hp.1) hp.2) k (List.mem_range.mpr hk)
theorem wish_eff {p : Nat × Nat} (hp : W4 p) {k : Nat} (hk : k < 5) : EffOk TA (saidS (wS p) k) (.name (wS p)):=.name _ (isS_inv (w_at (f:=fun p k => isS ((evs TA 60).fn (Str.ofString "parse257") [.str (saidS (wS p) k)]) (wS p)) p257_w hp hk))
theorem name_eff {k : Nat} (hk : k < 4) : EffOk TA (saidS (nm k) k) (.name (nm k)):=.name _ (isS_inv (ok4_at p257_n hk))
noncomputable def exR (x : String) : Except Ex PyData:=.error ⟨Str.ofString "error_reply",Str.ofString x⟩
noncomputable def exP (x : String) : Except Ex PyData:=.error ⟨Str.ofString "error_proto",Str.ofString x⟩
theorem all_eff : EffOk TA (Str.ofString "226 all told") (.no (Str.ofString "no 226 all told")):=by
 have h:=EffOk.noR (T:=TA) (reply:=Str.ofString "226 all told") (Str.ofString "226 all told") (Str.ofString "226 all told") (by kernel_rfl) (by kernel_rfl) (by decide +kernel)
 rw [show Str.ofString "no 226 all told" = Str.ofString "no " ++ Str.ofString "226 all told" by kernel_rfl]
 exact h
theorem odd_facts : ∀ x ∈ oddL.flatten,(evs TA 60).fn (Str.ofString "parse257") [sT x] = some (exR x) ∧ (evs TA 60).fn (Str.ofString "parse229") [sT x,peerT] = some (exP x):=by
 intro x hx
 simp only [oddL,List.flatten_cons,List.flatten_nil,List.append_nil,List.cons_append,List.nil_append,List.mem_cons,List.not_mem_nil,or_false] at hx
 rcases hx with rfl | rfl | rfl | rfl | rfl <;> exact ⟨by kernel_rfl,by kernel_rfl⟩
theorem odd_eff {x : String} (hx : x ∈ oddL.flatten) : EffOk TA (Str.ofString x) (.no (Str.ofString x)):=.noP _ _ (odd_facts x hx).1 (odd_facts x hx).2
theorem sp_mem {b : Nat → Bool} {k : Nat} {x : String} (h : x ∈ spL b k) : x ∈ oddL.flatten:=by
 unfold spL at h
 cases hb : b k with
 | false => rw [hb] at h;cases h
 | true =>
  rw [hb] at h
  cases e : oddL[k]? with
  | none => rw [e] at h;cases h
  | some l => rw [e] at h;exact List.mem_flatten.mpr ⟨l,List.mem_of_getElem? e,h⟩
noncomputable def fileR (m : Nat → Int) (b : Nat → Bool) (k : Nat) : List Str:=saidS (nm k) k :: ((spL b k).map Str.ofString ++ [portS k (m k)])
noncomputable def talkR (m : Nat → Int) (w : Nat → Nat × Nat) (b : Nat → Bool) : List Str:=(List.range 5).map (fun k => saidS (wS (w k)) k) ++ Str.ofString "226 all told" :: (List.range 4).flatMap (fileR m b)
noncomputable def bookD (m : Nat → Int) (n : Nat) : List (PyData × PyData):=(List.range n).map fun k => (.str (nm k),portD (m k))
noncomputable def hearD (w : Nat → Nat × Nat) : List PyData:=(List.range 5).map fun k => .str (wS (w k))
noncomputable def noD (b : Nat → Bool) (n : Nat) : List PyData:=sT "no 226 all told" :: ((List.range n).flatMap (spL b)).map sT
noncomputable def toldD (m : Nat → Int) (w : Nat → Nat × Nat) (b : Nat → Bool) : Told:=⟨bookD m 4,hearD w,noD b 4⟩
theorem Talks.app {T : Tab} {rs rs' : List Str} {d d' d'' : Told} (t : Talks T rs d d') (t' : Talks T rs' d' d'') : Talks T (rs ++ rs') d d'':=by
 induction t with
 | nil d => exact t'
 | cons he nx ti _ ih => exact .cons he nx ti (ih t')
theorem talk_names (f g : Nat → Str) : ∀ (ks : List Nat) (H S : List PyData) (bk : List (PyData × PyData)),(∀ k ∈ ks,EffOk TA (f k) (.name (g k))) → bk.length ≤ 1000 → H.length + ks.length ≤ 1000 → S.length ≤ 1000 → Talks TA (ks.map f) ⟨bk,H,S⟩ ⟨bk,H ++ ks.map fun k => .str (g k),S⟩
 | [],H,S,bk,_,_,_,_ => by rw [List.map_nil,List.map_nil,List.append_nil];exact .nil _
 | k :: ks,H,S,bk,h,h1,h2,h3 => by
  have h2' : H.length + 1 + ks.length ≤ 1000:=by rw [List.length_cons] at h2;omega
  have t:=talk_names f g ks (H ++ [.str (g k)]) S bk (fun k hk => h k (List.mem_cons_of_mem _ hk)) h1 (by rw [List.length_append];exact h2') h3
  rw [List.append_assoc] at t
  exact .cons (h k List.mem_cons_self) (.name ..) ⟨h1,by show H.length ≤ 1000;omega,h3⟩ t
theorem talk_odds (bk : List (PyData × PyData)) (H : List PyData) (h1 : bk.length ≤ 1000) (h2 : H.length ≤ 1000) : ∀ (xs : List String) (S : List PyData),(∀ x ∈ xs,x ∈ oddL.flatten) → S.length + xs.length ≤ 1000 → Talks TA (xs.map Str.ofString) ⟨bk,H,S⟩ ⟨bk,H,S ++ xs.map sT⟩
 | [],S,_,_ => by rw [List.map_nil,List.map_nil,List.append_nil];exact .nil _
 | x :: xs,S,h,h3 => by
  rw [List.length_cons] at h3
  have t:=talk_odds bk H h1 h2 xs (S ++ [sT x]) (fun x hx => h x (List.mem_cons_of_mem _ hx)) (by rw [List.length_append,List.length_singleton];omega)
  rw [List.append_assoc] at t
  exact .cons (odd_eff (h x List.mem_cons_self)) (.no ..) ⟨h1,h2,by show S.length ≤ 1000;omega⟩ t
theorem put_new (m : Nat → Int) : ∀ k,k < 4 → putD (bookD m k) (nm k) (portD (m k)) = bookD m (k + 1):=fun k hk => by
 match k,hk with
 | 0,_ => kernel_rfl
 | 1,_ => kernel_rfl
 | 2,_ => kernel_rfl
 | 3,_ => kernel_rfl
theorem no_len (b : Nat → Bool) (n : Nat) (hn : n ≤ 4) : (noD b n).length ≤ 9:=by
 have h : ∀ k,(spL b k).length ≤ 2:=fun k => by
  unfold spL
  cases b k with
  | false => exact Nat.zero_le _
  | true =>
   match k with
   | 0 => decide
   | 1 => decide
   | 2 => decide
   | 3 => decide
   | _ + 4 => exact Nat.zero_le _
 have h' : ∀ l : List Nat,(l.flatMap (spL b)).length ≤ 2 * l.length:=fun l => by
  induction l with
  | nil => exact Nat.le_refl _
  | cons k l ih => rw [List.flatMap_cons,List.length_append,List.length_cons];have:=h k;omega
 have:=h' (List.range n)
 rw [List.length_range] at this
 rw [noD,List.length_cons,List.length_map]
 omega
theorem talk_file {m : Nat → Int} (hm : ∀ k,(m k).natAbs < 10 ^ 10) (b : Nat → Bool) {k : Nat} (hk : k < 4) (H : List PyData) (hH : H.length ≤ 100) : Talks TA (fileR m b k) ⟨bookD m k,H,noD b k⟩ ⟨bookD m (k + 1),H,noD b (k + 1)⟩:=by
 have hb : (bookD m k).length ≤ 1000:=by rw [bookD,List.length_map,List.length_range];omega
 have hn:=no_len b k (by omega)
 have hn':=no_len b (k + 1) (by omega)
 have e : noD b (k + 1) = noD b k ++ (spL b k).map sT:=by
  rw [noD,noD,List.range_succ,List.flatMap_append,List.map_append,List.flatMap_cons,List.flatMap_nil,List.append_nil];rfl
 have hH' : (H ++ [PyData.str (nm k)]).length ≤ 1000:=by rw [List.length_append,List.length_singleton];omega
 refine .cons (name_eff hk) (.name ..) ⟨hb,by show H.length ≤ 1000;omega,by show (noD b k).length ≤ 1000;omega⟩ ?_
 have t:=talk_odds (bookD m k) (H ++ [.str (nm k)]) hb hH' (spL b k) (noD b k) (fun x => sp_mem) (by
  rw [e,List.length_append,List.length_map] at hn';omega)
 rw [← e] at t
 refine t.app (.cons (port_eff k hk (m k) (hm k)) (.port ..) ⟨hb,hH',by show (noD b (k + 1)).length ≤ 1000;omega⟩ ?_)
 rw [put_new m k hk]
 exact .nil _
theorem talk_ok {m : Nat → Int} (hm : ∀ k,(m k).natAbs < 10 ^ 10) {w : Nat → Nat × Nat} (hw : ∀ k,W4 (w k)) (b : Nat → Bool) : Talks TA (talkR m w b) ⟨[],[],[]⟩ (toldD m w b):=by
 have t1:=talk_names (fun k => saidS (wS (w k)) k) (fun k => wS (w k)) (List.range 5) [] [] [] (fun k hk => wish_eff (hw k) (List.mem_range.mp hk)) (by decide) (by decide) (by decide)
 have f : ∀ k,k < 4 → _:=fun k hk => talk_file hm b hk (hearD w) (by rw [hearD,List.length_map];decide)
 refine t1.app (.cons all_eff (.no ..) ⟨Nat.zero_le _,by rw [List.nil_append,List.length_map];decide,Nat.zero_le _⟩ ?_)
 rw [show (List.range 4).flatMap (fileR m b) = fileR m b 0 ++ (fileR m b 1 ++ (fileR m b 2 ++ fileR m b 3)) by rw [show List.range 4 = [0,1,2,3] from rfl];simp only [List.flatMap_cons,List.flatMap_nil,List.append_nil]]
 exact (f 0 (by decide)).app ((f 1 (by decide)).app ((f 2 (by decide)).app (f 3 (by decide))))
end
section
variable [bs : Base]
noncomputable abbrev vTalk : Str:=Str.ofString "talk"
noncomputable def talkF : Fn:=fnAt PP (some vTalk) 35
noncomputable def strsD (xs : List Str) : PyData:=.list (xs.map PyData.str)
noncomputable def rhoT (m : Nat → Int) (w : Nat → Nat × Nat) (b : Nat → Bool) : Vars:=[(Str.ofString "names",namesD),(Str.ofString "modes",modesD m),(Str.ofString "wishes",wishD w),(Str.ofString "spoiled",spD b)]
theorem bin_ex {T : Tab} {n : Nat} {sc : Names} {ρ : Vars} {E a b : Expr} {op : Operator} {d1 d2 : PyData} (hE : ∃ p,E = .BinOp a op b p) (hr : replV a b = none) (h1 : (evs T n).ex sc ρ a = some d1) (h2 : (evs T n).ex sc ρ b = some d2) : (evs T (n + 1)).ex sc ρ E = binop op d1 d2:=by
 obtain ⟨p,hE⟩:=hE
 generalize cvT 0 E = a' at *
 subst hE
 rw [ev_ex,x_bin _ _ _ _ _ _ _ _ hr,h1,h2]
 rfl
theorem gi_names {k : Nat} (hk : k < 4) : getitem namesD (natD k) = some (.str (nm k)):=gi_nat ((List.getElem?_map ..).trans (by rw [List.getElem?_eq_getElem (by rw [List.length_range];exact hk)];simp)) (by decide +kernel)
theorem gi_wish {w : Nat → Nat × Nat} {k : Nat} (hk : k < 5) : getitem (wishD w) (natD k) = some (pairN (w k)):=gi_nat ((List.getElem?_map ..).trans (by rw [List.getElem?_eq_getElem (by rw [List.length_range];exact hk)];simp)) (by rw [List.length_map];decide +kernel)
theorem gi_mode {m : Nat → Int} {k : Nat} (hk : k < 4) : getitem (modesD m) (natD k) = some (.int (m k)):=gi_nat ((List.getElem?_map ..).trans (by rw [List.getElem?_eq_getElem (by rw [List.length_range];exact hk)];simp)) (by rw [List.length_map];decide +kernel)
theorem gi_sp {b : Nat → Bool} {k : Nat} (hk : k < 4) : getitem (spD b) (natD k) = some (.list ((spL b k).map sT)):=gi_nat ((List.getElem?_map ..).trans (by rw [List.getElem?_eq_getElem (by rw [List.length_range];exact hk)];simp)) (by rw [List.length_map];decide +kernel)
theorem nm_len (k : Nat) : (nm k).length ≤ 3:=by
 match k with
 | 0 => decide +kernel
 | 1 => decide +kernel
 | 2 => decide +kernel
 | 3 => decide +kernel
 | _ + 4 => exact Nat.zero_le _
theorem len_app (x y : Str) : (x ++ y).length = x.length + y.length:=by rw [len_Lc,Lc_append,List.length_append,← len_Lc,← len_Lc]
theorem wS_add (p : Nat × Nat) : (binop .Add (.str (nm p.1)) (sT "/")).bind (fun x => binop .Add x (.str (nm p.2))) = some (.str (wS p)):=by
 have h1:=nm_len p.1
 have h2:=nm_len p.2
 have e : (Str.ofString "/").length = 1:=by decide +kernel
 rw [bo_adds (by rw [e];unfold lim;omega),Option.bind_some,bo_adds (by rw [len_app,e];unfold lim;omega)]
 rfl
set_option maxRecDepth 10000 in
theorem talk_w {m : Nat → Int} {w : Nat → Nat × Nat} (hw : ∀ k,W4 (w k)) (b : Nat → Bool) (n : Nat) : (evs TA (n + 32)).ex talkF.names (rhoT m w b) (cvT 0 (svE (nth talkF.body 0))) = some (strsD ((List.range 5).map fun k => saidS (wS (w k)) k)):=by
 refine (compA (n:=n + 31) (xs:=List.range 5) (Str.ofString "k") natD (fun k => .str (saidS (wS (w k)) k)) ⟨_,rfl⟩ (by kernel_rfl) (by kernel_rfl) (by kernel_rfl) (by decide) fun k hk => ?_).trans (by rw [strsD,List.map_map];rfl)
 refine (show _ = (((((((getitem (wishD w) (natD k)).bind fun p => getitem p (.int 0)).bind fun i => getitem namesD i).bind fun x => binop .Add x (sT "/")).bind fun x => (((getitem (wishD w) (natD k)).bind fun p => getitem p (.int 1)).bind fun i => getitem namesD i).bind fun y => binop .Add x y).bind fun x => some [x,natD k]).bind fun ds => okR ((evs TA (n + 30)).fn (Str.ofString "_law_said") ds)) by kernel_rfl).trans ?_
 have h5:=List.mem_range.mp hk
 obtain ⟨h1,h2⟩:=hw k
 rw [gi_wish h5]
 refine (congrArg (fun z => (Option.bind (Option.bind z fun x => some [x,natD k]) fun ds => okR ((evs TA (n + 30)).fn (Str.ofString "_law_said") ds))) (show _ = some (PyData.str (wS (w k))) from ?_)).trans ?_
 ·refine (show _ = (((getitem namesD (natD (w k).1)).bind fun x => binop .Add x (sT "/")).bind fun x => (getitem namesD (natD (w k).2)).bind fun y => binop .Add x y) by kernel_rfl).trans ?_
  rw [gi_names h1,gi_names h2]
  exact wS_add (w k)
 ·exact congrArg okR (isS_inv (w_at (f:=fun p k => isS ((evs TA (n + 30)).fn (Str.ofString "_law_said") [.str (wS p),natD k]) (saidS (wS p) k)) (said_w (n + 10)) ⟨h1,h2⟩ h5))
noncomputable def talkB : List Stmt:=svB (nth talkF.body 1)
noncomputable def rhoK (m : Nat → Int) (w : Nat → Nat × Nat) (b : Nat → Bool) (k : Nat) : Vars:=rhoT m w b ++ [(Str.ofString "place",natD k),(Str.ofString "mark",.str (markS k))]
theorem mark3 : ∀ {k : Nat},k < 4 → binop .Mult (.str (markS k)) (.int 3) = some (.str (markS k ++ markS k ++ markS k)) ∧ (markS k).length = 1:=fun {k} hk => by
 match k,hk with
 | 0,_ => exact ⟨by kernel_rfl,by decide +kernel⟩
 | 1,_ => exact ⟨by kernel_rfl,by decide +kernel⟩
 | 2,_ => exact ⟨by kernel_rfl,by decide +kernel⟩
 | 3,_ => exact ⟨by kernel_rfl,by decide +kernel⟩
theorem str_num {n : Int} (h : n.natAbs < 10 ^ 10) : builtin1 "str" (.int n) = some (.str (numS n)):=if_pos (Nat.lt_trans h (by decide))
theorem port_add {k : Nat} (hk : k < 4) {n : Int} (h : n.natAbs < 10 ^ 10) : (((((binop .Mult (.str (markS k)) (.int 3)).bind fun x => binop .Add (sT "229 it lies at (") x).bind fun x => (builtin1 "str" (.int n)).bind fun y => binop .Add x y).bind fun x => binop .Add x (.str (markS k))).bind fun x => binop .Add x (sT ") (|||7|)")) = some (.str (portS k n)):=by
 have hl:=(num_facts h).2.2
 obtain ⟨e1,e2⟩:=mark3 hk
 have e3 : (Str.ofString "229 it lies at (").length = 16:=by decide +kernel
 have e4 : (Str.ofString ") (|||7|)").length = 9:=by decide +kernel
 rw [e1,Option.bind_some,bo_adds (by rw [len_app,len_app,e2,e3];unfold lim;omega),Option.bind_some,str_num h,Option.bind_some,bo_adds (by simp only [len_app,e2,e3];unfold lim;omega),Option.bind_some,bo_adds (by simp only [len_app,e2,e3];unfold lim;omega),Option.bind_some,bo_adds (by simp only [len_app,e2,e3,e4];unfold lim;omega)]
 rfl
theorem ext_own {ds xs : List PyData} (h : ds.length + xs.length ≤ lim) : ownAct (Str.ofString "extend") ds (.list xs) = some (ds ++ xs):=(if_neg (by rw [ofString_iff];decide)).trans ((if_pos rfl).trans (if_pos h))
set_option maxRecDepth 10000 in
theorem talk_turn (n : Nat) {m : Nat → Int} (hm : ∀ k,(m k).natAbs < 10 ^ 10) (w : Nat → Nat × Nat) (b : Nat → Bool) {k : Nat} (hk : k < 4) {acc : List PyData} (hl : acc.length ≤ 100) {ρ : Vars} (h1 : (evs TA (n + 30)).ex talkF.names ρ (svE (nth talkB 0)) = some (.str (markS k))) (hs : setV ρ (Str.ofString "mark") (.str (markS k)) = rhoK m w b k)
  (ha : asgE (evs TA (n + 30)) talkF.names (some vTalk) ⟨ρ,some (vTalk,acc)⟩ (Str.ofString "mark") (svE (nth talkB 0)) = ((evs TA (n + 30)).ex talkF.names ρ (svE (nth talkB 0))).map fun d => (Out.next,(⟨setV ρ (Str.ofString "mark") d,some (vTalk,acc)⟩ : St))) :
  (evs TA (n + 31)).ss talkF.names (some vTalk) ⟨ρ,some (vTalk,acc)⟩ talkB = some (.ok (.next,⟨rhoK m w b k,some (vTalk,acc ++ (fileR m b k).map PyData.str)⟩)):=by
 have hsp : (spL b k).length ≤ 2:=by
  have:=no_len b 4 (by decide)
  unfold spL
  cases b k with
  | false => exact Nat.zero_le _
  | true =>
   match k,hk with
   | 0,_ => decide
   | 1,_ => decide
   | 2,_ => decide
   | 3,_ => decide
 rw [show talkB = [nth talkB 0,nth talkB 1,nth talkB 2,nth talkB 3] by kernel_rfl]
 obtain ⟨q,p,e⟩ : ∃ q p,nth talkB 0 = .Assign [.Name (Str.ofString "mark") q] (svE (nth talkB 0)) p:=⟨_,_,rfl⟩
 have s0 : stmtE TA (evs TA (n + 30)) talkF.names (some vTalk) ⟨ρ,some (vTalk,acc)⟩ (nth talkB 0) = some (.ok (.next,⟨rhoK m w b k,some (vTalk,acc)⟩)):=by
  rw [e]
  refine (congrArg Rs.up (show _ = some (Out.next,(⟨rhoK m w b k,some (vTalk,acc)⟩ : St)) from ?_)).trans rfl
  refine (show _ = asgE (evs TA (n + 30)) talkF.names (some vTalk) ⟨ρ,some (vTalk,acc)⟩ (Str.ofString "mark") (svE (nth talkB 0)) from rfl).trans ?_
  rw [ha,h1,← hs]
  rfl
 rw [ev_ss,s_cons,s0]
 show (evs TA (n + 29 + 1)).ss talkF.names (some vTalk) ⟨rhoK m w b k,some (vTalk,acc)⟩ [nth talkB 1,nth talkB 2,nth talkB 3] = _
 refine ss_methV (σ':=⟨rhoK m w b k,some (vTalk,acc ++ [.str (saidS (nm k) k)])⟩) ⟨_,rfl⟩ ((show _ = ((((getitem namesD (natD k)).bind fun x => some [x,natD k]).bind fun ds => okR ((evs TA (n + 28)).fn (Str.ofString "_law_said") ds)).bind (ownAct (Str.ofString "append") acc)).map fun ds => (Out.next,(⟨rhoK m w b k,some (vTalk,ds)⟩ : St)) by kernel_rfl).trans (by
  rw [gi_names hk,Option.bind_some,Option.bind_some,isS_inv (ok4_at (said_n (n + 8)) hk),ok_R,Option.bind_some,own_app (by unfold lim;omega)];rfl)) ?_
 refine ss_methV (σ':=⟨rhoK m w b k,some (vTalk,acc ++ [.str (saidS (nm k) k)] ++ (spL b k).map sT)⟩) ⟨_,rfl⟩ ((show _ = ((getitem (spD b) (natD k)).bind (ownAct (Str.ofString "extend") (acc ++ [.str (saidS (nm k) k)]))).map fun ds => (Out.next,(⟨rhoK m w b k,some (vTalk,ds)⟩ : St)) by kernel_rfl).trans (by
  rw [gi_sp hk,Option.bind_some,ext_own (by rw [List.length_append,List.length_singleton,List.length_map];unfold lim;omega)];rfl)) ?_
 refine ss_methV (σ':=⟨rhoK m w b k,some (vTalk,acc ++ [.str (saidS (nm k) k)] ++ (spL b k).map sT ++ [.str (portS k (m k))])⟩) ⟨_,rfl⟩ ((show _ = (((((((binop .Mult (.str (markS k)) (.int 3)).bind fun x => binop .Add (sT "229 it lies at (") x).bind fun x => ((getitem (modesD m) (natD k)).bind fun i => builtin1 "str" i).bind fun y => binop .Add x y).bind fun x => binop .Add x (.str (markS k))).bind fun x => binop .Add x (sT ") (|||7|)"))).bind (ownAct (Str.ofString "append") (acc ++ [.str (saidS (nm k) k)] ++ (spL b k).map sT))).map fun ds => (Out.next,(⟨rhoK m w b k,some (vTalk,ds)⟩ : St)) by kernel_rfl).trans (by
  rw [gi_mode hk,Option.bind_some,port_add hk (hm k),Option.bind_some,own_app (by rw [List.length_append,List.length_append,List.length_singleton,List.length_map];unfold lim;omega)];rfl)) ?_
 rw [fileR,List.map_cons,List.map_append,List.map_map,List.append_assoc,List.append_assoc]
 rfl
end
section
variable [bs : Base]
set_option maxRecDepth 10000 in
theorem talk_fn (n : Nat) {m : Nat → Int} (hm : ∀ k,(m k).natAbs < 10 ^ 10) {w : Nat → Nat × Nat} (hw : ∀ k,W4 (w k)) (b : Nat → Bool) : (evs TA (n + 36)).fn (Str.ofString "_law_talk") [namesD,modesD m,wishD w,spD b] = some (.ok (strsD (talkR m w b))):=by
 refine fn_eq (F:=talkF) (by kernel_rfl) (by rfl) ?_
 generalize ha : (List.range 5).map (fun k => saidS (wS (w k)) k) = ss
 have hs : ss.length = 5:=by rw [← ha,List.length_map,List.length_range]
 have h0 : (evs TA (n + 34)).ex talkF.names (rhoT m w b) (svE (nth talkF.body 0)) = some (.list (ss.map PyData.str ++ [sT "226 all told"])) :=
  (bin_ex (n:=n + 33) (a:=cvT 0 (svE (nth talkF.body 0))) (b:=cvE (svE (nth talkF.body 0))) (op:=.Add) ⟨_,rfl⟩ (by kernel_rfl) ((talk_w hw b (n + 1)).trans (by rw [ha];rfl)) (show _ = some (.list [sT "226 all told"]) by kernel_rfl)).trans (bo_addl (by rw [List.length_map,hs];decide))
 have len : ∀ k,k < 4 → ((fileR m b k).map PyData.str).length ≤ 4:=fun k hk => by
  have : (spL b k).length ≤ 2:=by
   unfold spL
   cases b k with
   | false => exact Nat.zero_le _
   | true =>
    match k,hk with
    | 0,_ => decide
    | 1,_ => decide
    | 2,_ => decide
    | 3,_ => decide
  rw [List.length_map,fileR,List.length_cons,List.length_append,List.length_map,List.length_singleton]
  omega
 have l0:=len 0 (by decide)
 have l1:=len 1 (by decide)
 have l2:=len 2 (by decide)
 have t0:=talk_turn (n + 2) hm w b (k:=0) (by decide) (acc:=ss.map PyData.str ++ [sT "226 all told"]) (by simp [hs]) (ρ:=rhoT m w b ++ [(Str.ofString "place",natD 0)]) (by kernel_rfl) (by kernel_rfl) (by kernel_rfl)
 have t1:=talk_turn (n + 2) hm w b (k:=1) (by decide) (acc:=ss.map PyData.str ++ [sT "226 all told"] ++ (fileR m b 0).map PyData.str) (by simp only [List.length_append,List.length_map,hs,List.length_singleton] at *;omega) (ρ:=rhoT m w b ++ [(Str.ofString "place",natD 1),(Str.ofString "mark",.str (markS 0))]) (by kernel_rfl) (by kernel_rfl) (by kernel_rfl)
 have t2:=talk_turn (n + 2) hm w b (k:=2) (by decide) (acc:=ss.map PyData.str ++ [sT "226 all told"] ++ (fileR m b 0).map PyData.str ++ (fileR m b 1).map PyData.str) (by simp only [List.length_append,List.length_map,hs,List.length_singleton] at *;omega) (ρ:=rhoT m w b ++ [(Str.ofString "place",natD 2),(Str.ofString "mark",.str (markS 1))]) (by kernel_rfl) (by kernel_rfl) (by kernel_rfl)
 have t3:=talk_turn (n + 2) hm w b (k:=3) (by decide) (acc:=ss.map PyData.str ++ [sT "226 all told"] ++ (fileR m b 0).map PyData.str ++ (fileR m b 1).map PyData.str ++ (fileR m b 2).map PyData.str) (by simp only [List.length_append,List.length_map,hs,List.length_singleton] at *;omega) (ρ:=rhoT m w b ++ [(Str.ofString "place",natD 3),(Str.ofString "mark",.str (markS 2))]) (by kernel_rfl) (by kernel_rfl) (by kernel_rfl)
 have e : ss.map PyData.str ++ [sT "226 all told"] ++ (fileR m b 0).map PyData.str ++ (fileR m b 1).map PyData.str ++ (fileR m b 2).map PyData.str ++ (fileR m b 3).map PyData.str = (talkR m w b).map PyData.str:=by
  rw [talkR,ha,show List.range 4 = [0,1,2,3] from rfl]
  simp only [List.flatMap_cons,List.flatMap_nil,List.append_nil,List.map_append,List.map_cons,List.append_assoc,List.cons_append,List.nil_append]
 rw [e] at t3
 have key : ∃ ρ,(evs TA (n + 35)).ss talkF.names (some vTalk) ⟨rhoT m w b,none⟩ talkF.body = some (.ok (.ret (strsD (talkR m w b)),ρ)) :=
  ⟨_,ss_ownV (st:=nth talkF.body 0) (rest:=[nth talkF.body 1,nth talkF.body 2]) ⟨_,_,rfl⟩ (by kernel_rfl) (by kernel_rfl) (by kernel_rfl) h0
   (ss_forV (n:=n + 33) (st:=nth talkF.body 1) (ds:=(List.range 4).map natD) ⟨_,rfl⟩ (by kernel_rfl) (by kernel_rfl) (by kernel_rfl) (forGo_nextV t0 (by kernel_rfl) (forGo_nextV t1 (by kernel_rfl) (forGo_nextV t2 (by kernel_rfl) (forGo_nextV t3 (by kernel_rfl) forGo_nil)))) (show (evs TA (n + 33)).ss talkF.names (some vTalk) ⟨rhoK m w b 3,some (vTalk,(talkR m w b).map PyData.str)⟩ [nth talkF.body 2] = some (.ok (.ret (strsD (talkR m w b)),⟨rhoK m w b 3,some (vTalk,(talkR m w b).map PyData.str)⟩)) by kernel_rfl))⟩
 obtain ⟨ρ,key⟩:=key
 exact congrArg (fun z => Rs.bind z _) key
theorem talk_eq {m : Nat → Int} (hm : ∀ k,(m k).natAbs < 10 ^ 10) {w : Nat → Nat × Nat} (hw : ∀ k,W4 (w k)) (b : Nat → Bool) : (evs TA 100).ex lawF.names (rhoB m w b) (argE 1 (svE (LB 9))) = some (.list ((talkR m w b).map PyData.str)) :=
 (show _ = okR ((evs TA 99).fn (Str.ofString "_law_talk") [namesD,modesD m,wishD w,spD b]) by kernel_rfl).trans (congrArg okR (talk_fn 63 hm hw b))
end
section
theorem and_even (x y : Int) : Builtin.bitAnd x (2 * y) = 2 * Builtin.bitAnd (x / 2) y:=by
 rw [kbt_halves,if_neg (by omega),show 2 * y / 2 = y by omega,Int.add_zero]
theorem and_odd (x y : Int) : Builtin.bitAnd x (2 * y + 1) = 2 * Builtin.bitAnd (x / 2) y + x % 2:=by
 rw [kbt_halves,show (2 * y + 1) / 2 = y by omega]
 congr 1
 split <;> first | omega | (rw [and_self,iff_true];omega)
theorem and_hi (k : Nat) : ∀ x y : Int,Builtin.bitAnd x (2 ^ k * y) = 2 ^ k * Builtin.bitAnd (x / 2 ^ k) y:=by
 induction k with
 | zero => intro x y;rw [Int.pow_zero,Int.one_mul,Int.one_mul,Int.ediv_one]
 | succ k ih =>
  intro x y
  rw [Int.pow_succ,Int.mul_comm (2 ^ k) 2,Int.mul_assoc,and_even,ih,Int.mul_assoc,Int.ediv_ediv_of_nonneg (by decide)]
noncomputable def bt (m u : Int) : Bool:=m / u % 2 == 1
theorem tst1 (m : Int) (k : Nat) {n : Int} (hn : (2 : Int) ^ k = n) (h0 : 0 < n) : (Builtin.bitAnd m n == n) = bt m n:=by
 rw [← hn,kbt_bit,hn,bt]
 rcases Int.emod_two_eq (m / n) with e | e <;> rw [e]
 ·rw [Int.zero_mul]
  exact beq_eq_false_iff_ne.mpr (Int.ne_of_lt h0)
 ·rw [Int.one_mul,beq_self_eq_true];rfl
theorem tst2 (m : Int) (k j : Nat) {n u v : Int} (hn : (2 : Int) ^ k * (2 * 2 ^ j + 1) = n) (hu : (2 : Int) ^ k = u) (hv : (2 : Int) ^ k * 2 * 2 ^ j = v) (h : 0 < u ∧ 0 < v ∧ u + v = n) : (Builtin.bitAnd m n == n) = (bt m u && bt m v):=by
 have hv' : u * (2 * 2 ^ j) = v:=by rw [← Int.mul_assoc,← hu];exact hv
 have e : Builtin.bitAnd m n = u * (2 * (m / v % 2 * 2 ^ j) + m / u % 2):=by
  rw [← hn,and_hi,and_odd,kbt_bit,hu,Int.ediv_ediv_of_nonneg (show (0 : Int) ≤ u by omega),Int.ediv_ediv_of_nonneg (show (0 : Int) ≤ u * 2 by omega),Int.mul_assoc u 2,hv']
 rw [e,bt,bt,Bool.eq_iff_iff,Bool.and_eq_true,beq_iff_eq,beq_iff_eq,beq_iff_eq,Int.mul_add]
 rcases Int.emod_two_eq (m / u) with e | e <;> rcases Int.emod_two_eq (m / v) with e' | e' <;> rw [e,e'] <;> simp only [Int.zero_mul,Int.mul_zero,Int.one_mul,Int.mul_one,hv'] <;> first | omega | (rw [and_self,iff_true];omega)
theorem tstT (m : Int) : Builtin.bitAnd m 61440 = 4096 * (m / 4096 % 16):=by
 rw [show (61440 : Int) = 2 ^ 12 * 15 by decide,and_hi,bitAnd_m4];rfl
end
section
open PySem.StrLaws PySem.Builtin.Str
variable [bs : Base]
theorem fd (m : Int) {a b : Int} (ha : 0 ≤ a) (hb : 0 ≤ b) : (m.fdiv a).fmod b = m / a % b:=by
 rw [Int.fdiv_eq_ediv_of_nonneg _ ha,Int.fmod_eq_emod_of_nonneg _ hb]
theorem md (y : Int) {a b : Int} (ha : 0 < a) : y % (a * b) / a = y / a % b:=by
 rw [Int.emod_def,Int.emod_def,Int.mul_assoc,Int.sub_eq_add_neg,← Int.mul_neg,Int.add_mul_ediv_left _ _ (Int.ne_of_gt ha),Int.ediv_ediv_of_nonneg (Int.le_of_lt ha)]
 rfl
theorem md4 (y : Int) : y % 8 / 4 = y / 4 % 2:=md y (a:=4) (b:=2) (by decide)
theorem md2 (y : Int) : y % 8 / 2 % 2 = y / 2 % 2:=by
 rw [show y % 8 / 2 = y / 2 % 4 from md y (a:=2) (b:=4) (by decide)]
 exact Int.emod_emod_of_dvd _ (by decide)
theorem md1 (y : Int) : y % 8 % 2 = y % 2:=Int.emod_emod_of_dvd y (by decide)
theorem gi2 {x : Str} {a b : Nat} (hx : x = Sc [a,b]) {i : Int} {q : Bool} (h : 0 ≤ i ∧ i < 2) (hq : (i == 1) = q) : getitem (.str x) (.int i) = some (.str (Sc [cond q b a])):=by
 subst hx hq
 obtain rfl | rfl : i = 0 ∨ i = 1:=by omega
 ·rfl
 ·rfl
theorem gi4 {x : Str} {a b c d : Nat} (hx : x = Sc [a,b,c,d]) {i j : Int} {p q : Bool} (h : 0 ≤ i ∧ i < 2) (hp : (i == 1) = p) (h' : 0 ≤ j ∧ j < 2) (hq : (j == 1) = q) : getitem (.str x) (.int (i + j * 2)) = some (.str (Sc [cond q (cond p d c) (cond p b a)])):=by
 subst hx hp hq
 obtain rfl | rfl : i = 0 ∨ i = 1:=by omega
 ·obtain rfl | rfl : j = 0 ∨ j = 1:=by omega
  ·rfl
  ·rfl
 ·obtain rfl | rfl : j = 0 ∨ j = 1:=by omega
  ·rfl
  ·rfl
theorem Sc_app (l k : List Nat) : Sc l ++ Sc k = Sc (l ++ k):=Lc_inj (by rw [Lc_append])
theorem add_Sc {l k : List Nat} (h : l.length ≤ 1000 ∧ k.length ≤ 1000) : binop .Add (.str (Sc l)) (.str (Sc k)) = some (.str (Sc (l ++ k))) :=
 (bo_adds (by rw [len_Lc,len_Lc];show l.length + k.length ≤ lim;unfold lim;omega)).trans (by rw [Sc_app])
theorem three {l : List Nat} {A B C : Option PyData} {a b c : Nat} (h : l.length ≤ 100) (hA : A = some (.str (Sc [a]))) (hB : B = some (.str (Sc [b]))) (hC : C = some (.str (Sc [c]))) :
  ((((A.bind fun a => binop .Add (.str (Sc l)) a).bind fun z => B.bind fun b => binop .Add z b).bind fun z => C.bind fun c => binop .Add z c)) = some (.str (Sc (l ++ [a,b,c]))):=by
 subst hA hB hC
 have e : ∀ (l : List Nat) (x : Nat),l.length ≤ 1000 → binop .Add (.str (Sc l)) (.str (Sc [x])) = some (.str (Sc (l ++ [x]))):=fun l x h => add_Sc ⟨h,Nat.le_of_ble_eq_true rfl⟩
 simp only [Option.bind_some]
 rw [e _ _ (by omega),Option.bind_some,e _ _ (by rw [List.length_append];simp;omega),Option.bind_some,e _ _ (by rw [List.length_append,List.length_append];simp;omega),List.append_assoc,List.append_assoc]
 rfl
noncomputable def pT (t : Nat) : Nat:=((Lc (Str.ofString "?pc?d?b?-?l?s???"))[t]?).getD 0
noncomputable def cR (b : Bool) (c : Nat) : Nat:=cond b c 45
noncomputable def cX (b s : Bool) (c d : Nat) : Nat:=cond s (cond b c d) (cond b 120 45)
noncomputable def sg (m : Int) : List Nat:=[pT (m / 4096 % 16).toNat,cR (bt m 256) 114,cR (bt m 128) 119,cX (bt m 64) (bt m 2048) 115 83,cR (bt m 32) 114,cR (bt m 16) 119,cX (bt m 8) (bt m 1024) 115 83,cR (bt m 4) 114,cR (bt m 2) 119,cX (bt m 1) (bt m 512) 116 84]
noncomputable def listF : Fn:=fnAt PP none 37
noncomputable def rhoL (m k d : Int) (S : Str) : Vars:=[(Str.ofString "mode",.int m),(Str.ofString "signs",.str S),(Str.ofString "k",.int k),(Str.ofString "digit",.int d)]
noncomputable def listB : List Stmt:=svB (nth listF.body 1)
theorem list_turn (n : Nat) (m : Int) (l : List Nat) (hl : l.length ≤ 100) (k c u v b z : Int) {ρ : Vars} {x : Str} (f g : Nat)
  (h1 : (evs TA (n + 10)).ex listF.names ρ (svE (nth listB 0)) = some (.int ((m.fdiv c).fmod 8))) (hs : setV ρ (Str.ofString "digit") (.int ((m.fdiv c).fmod 8)) = rhoL m k ((m.fdiv c).fmod 8) (Sc l))
  (h2 : (evs TA (n + 9)).ex listF.names (rhoL m k ((m.fdiv c).fmod 8) (Sc l)) (svE (nth listB 1)) = ((((getitem (.str (Str.ofString "-r")) (.int (((m.fdiv c).fmod 8).fdiv 4))).bind fun a => binop .Add (.str (Sc l)) a).bind fun z => (getitem (.str (Str.ofString "-w")) (.int ((((m.fdiv c).fmod 8).fdiv 2).fmod 2))).bind fun b => binop .Add z b).bind fun z => (getitem (.str x) (.int (((m.fdiv c).fmod 8).fmod 2 + ((m.fdiv 512).fdiv b).fmod 2 * 2))).bind fun c => binop .Add z c))
  (hx : x = Sc [45,120,f,g]) (hb : 0 ≤ b ∧ 0 ≤ c) (hu : c * 4 = u) (hv : c * 2 = v) (hz : 512 * b = z) :
  (evs TA (n + 11)).ss listF.names none ⟨ρ,none⟩ listB = some (.ok (.next,⟨rhoL m k ((m.fdiv c).fmod 8) (Sc (l ++ [cR (bt m u) 114,cR (bt m v) 119,cX (bt m c) (bt m z) g f])),none⟩)):=by
 subst hu hv hz
 rw [fd _ hb.2 (by decide)] at h1 h2 hs ⊢
 rw [fd _ hb.1 (by decide),Int.fdiv_eq_ediv_of_nonneg _ (show (0 : Int) ≤ 512 by decide),Int.ediv_ediv_of_nonneg (show (0 : Int) ≤ 512 by decide)] at h2
 rw [bt,bt,bt,bt,← Int.ediv_ediv_of_nonneg hb.2,← Int.ediv_ediv_of_nonneg hb.2]
 generalize m / c = y at h1 h2 hs ⊢
 generalize m / (512 * b) = s at h2 ⊢
 have e4 : (y % 8).fdiv 4 = y / 4 % 2:=(Int.fdiv_eq_ediv_of_nonneg _ (by decide)).trans (md4 y)
 have e2 : (y % 8).fmod 2 = y % 2:=(Int.fmod_eq_emod_of_nonneg _ (by decide)).trans (md1 y)
 have ev : ((y % 8).fdiv 2).fmod 2 = y / 2 % 2:=(fd _ (by decide) (by decide)).trans (md2 y)
 rw [e4,e2,ev,three hl (gi2 (a:=45) (b:=114) (by kernel_rfl) ⟨Int.emod_nonneg _ (by decide),Int.emod_lt_of_pos _ (by decide)⟩ rfl) (gi2 (a:=45) (b:=119) (by kernel_rfl) ⟨Int.emod_nonneg _ (by decide),Int.emod_lt_of_pos _ (by decide)⟩ rfl)
  (gi4 hx ⟨Int.emod_nonneg _ (by decide),Int.emod_lt_of_pos _ (by decide)⟩ rfl ⟨Int.emod_nonneg _ (by decide),Int.emod_lt_of_pos _ (by decide)⟩ rfl)] at h2
 exact ss_asgV (st:=nth listB 0) (n:=n + 10) (x:=Str.ofString "digit") (rest:=[nth listB 1]) ⟨_,_,rfl⟩ (by kernel_rfl) h1 (hs ▸ ss_asgV (st:=nth listB 1) (x:=Str.ofString "signs") ⟨_,_,rfl⟩ (by kernel_rfl) h2 (by kernel_rfl))
theorem listing_fn (n : Nat) (m : Int) : (evs TA (n + 14)).fn (Str.ofString "_law_listing") [.int m] = some (.ok (.str (Sc (sg m)))):=by
 refine fn_eq (F:=listF) (by kernel_rfl) (by rfl) ?_
 have e0 : getitem (.str (Str.ofString "?pc?d?b?-?l?s???")) (.int ((m.fdiv 4096).fmod 16)) = some (.str (Sc [pT (m / 4096 % 16).toNat])):=by
  rw [fd _ (by decide) (by decide)]
  obtain ⟨k,e⟩:=Int.eq_ofNat_of_zero_le (show 0 ≤ m / 4096 % 16 by omega)
  have hk : k < 16:=by omega
  rw [e]
  have hl : (Lc (Str.ofString "?pc?d?b?-?l?s???")).length = 16:=by kernel_rfl
  exact (gi_s (by rw [len_Lc,hl];unfold lim;omega)).trans (congrArg (fun z => some (PyData.str z)) (item_list _ k _ ((List.getElem?_eq_getElem (hl ▸ hk)).trans (by unfold pT;rw [Int.toNat_natCast,List.getElem?_eq_getElem (hl ▸ hk)];rfl))))
 unfold sg
 generalize pT (m / 4096 % 16).toNat = p at e0 ⊢
 have t2:=list_turn (x:=Str.ofString "-xSs") n m [p] (Nat.le_of_ble_eq_true rfl) 2 64 256 128 4 2048 (ρ:=[(Str.ofString "mode",.int m),(Str.ofString "signs",.str (Sc [p])),(Str.ofString "k",.int 2)]) 83 115 (by kernel_rfl) (by kernel_rfl) (by kernel_rfl) (by kernel_rfl) (by decide) rfl rfl rfl
 have t1:=list_turn (x:=Str.ofString "-xSs") n m ([p] ++ [cR (bt m 256) 114,cR (bt m 128) 119,cX (bt m 64) (bt m 2048) 115 83]) (Nat.le_of_ble_eq_true rfl) 1 8 32 16 2 1024 (ρ:=rhoL m 1 ((m.fdiv 64).fmod 8) (Sc ([p] ++ [cR (bt m 256) 114,cR (bt m 128) 119,cX (bt m 64) (bt m 2048) 115 83]))) 83 115 (by kernel_rfl) (by kernel_rfl) (by kernel_rfl) (by kernel_rfl) (by decide) rfl rfl rfl
 have t0:=list_turn (x:=Str.ofString "-xTt") n m ([p] ++ [cR (bt m 256) 114,cR (bt m 128) 119,cX (bt m 64) (bt m 2048) 115 83] ++ [cR (bt m 32) 114,cR (bt m 16) 119,cX (bt m 8) (bt m 1024) 115 83]) (Nat.le_of_ble_eq_true rfl) 0 1 4 2 1 512 (ρ:=rhoL m 0 ((m.fdiv 8).fmod 8) (Sc ([p] ++ [cR (bt m 256) 114,cR (bt m 128) 119,cX (bt m 64) (bt m 2048) 115 83] ++ [cR (bt m 32) 114,cR (bt m 16) 119,cX (bt m 8) (bt m 1024) 115 83]))) 84 116 (by kernel_rfl) (by kernel_rfl) (by kernel_rfl) (by kernel_rfl) (by decide) rfl rfl rfl
 have key : ∃ ρ,(evs TA (n + 13)).ss listF.names none ⟨[(Str.ofString "mode",.int m)],none⟩ listF.body = some (.ok (.ret (.str (Sc [p,cR (bt m 256) 114,cR (bt m 128) 119,cX (bt m 64) (bt m 2048) 115 83,cR (bt m 32) 114,cR (bt m 16) 119,cX (bt m 8) (bt m 1024) 115 83,cR (bt m 4) 114,cR (bt m 2) 119,cX (bt m 1) (bt m 512) 116 84])),⟨ρ,none⟩)) :=
  ⟨_,ss_asgV (st:=nth listF.body 0) (x:=Str.ofString "signs") (rest:=[nth listF.body 1,nth listF.body 2]) ⟨_,_,rfl⟩ (by kernel_rfl) ((show _ = getitem (.str (Str.ofString "?pc?d?b?-?l?s???")) (.int ((m.fdiv 4096).fmod 16)) by kernel_rfl).trans e0)
   (ss_forV (n:=n + 11) (st:=nth listF.body 1) (ds:=[.int 2,.int 1,.int 0]) ⟨_,rfl⟩ (by kernel_rfl) (by kernel_rfl) (by kernel_rfl) (forGo_nextV t2 (by kernel_rfl) (forGo_nextV t1 (by kernel_rfl) (forGo_nextV t0 (by kernel_rfl) forGo_nil))) (ss_retV (n:=n + 10) (st:=nth listF.body 2) ⟨_,rfl⟩ (by kernel_rfl)))⟩
 obtain ⟨ρ,key⟩:=key
 exact congrArg (fun z => Rs.bind z _) key
end
section
open PySem.StrLaws PySem.Builtin.Str
variable [bs : Base]
noncomputable def vPerm : Str:=Str.ofString "perm"
noncomputable def fmF : Fn:=fnAt PP (some vPerm) 32
noncomputable def fmO : Stmt:=nth fmF.body 1
noncomputable def fmI : Stmt:=nth (svB fmO) 0
noncomputable def rhoI (m i : Int) (t : PyData) : Vars:=[(Str.ofString "mode",.int m),(Str.ofString "index",.int i),(Str.ofString "table",t)]
noncomputable def rhoF (m i : Int) (t b c : PyData) : Vars:=rhoI m i t ++ [(Str.ofString "bit",b),(Str.ofString "char",c)]
noncomputable def chD (c : Nat) : PyData:=.str (Sc [c])
noncomputable def tstN (m : Int) (i : Nat) (b : Int) : Bool:=cond (i == 0) (Builtin.bitAnd m 61440 == b) (Builtin.bitAnd m b == b)
theorem fm_app (n : Nat) {ρ : Vars} {st : Stmt} {acc : List PyData} {d : PyData} {rest : List Stmt} {z : Out × St} (hl : acc.length < 1000) (hs : ∃ p,st = .Expr (svE st) p) (h : methE (evs TA n) fmF.names ⟨ρ,some (vPerm,acc)⟩ (svE st) = (ownAct (Str.ofString "append") acc d).map fun ds => (Out.next,(⟨ρ,some (vPerm,ds)⟩ : St)))
  (hz : (evs TA n).ss fmF.names (some vPerm) ⟨ρ,some (vPerm,acc ++ [d])⟩ rest = some (.ok z)) : (evs TA (n + 1)).ss fmF.names (some vPerm) ⟨ρ,some (vPerm,acc)⟩ (st :: rest) = some (.ok z) :=
 ss_methV hs (h.trans (by rw [own_app (by unfold lim;omega)];rfl)) hz
set_option maxRecDepth 10000 in
theorem fm_inner (n : Nat) (m : Int) (i : Nat) (t : PyData) (b : Int) (c : Nat) (acc : List PyData) (hl : acc.length < 1000) : (evs TA (n + 10)).ss fmF.names (some vPerm) ⟨rhoF m i t (.int b) (chD c),some (vPerm,acc)⟩ (svB fmI) =
  some (.ok (cond (tstN m i b) (.brk,⟨rhoF m i t (.int b) (chD c),some (vPerm,acc ++ [chD c])⟩) (.next,⟨rhoF m i t (.int b) (chD c),some (vPerm,acc)⟩))):=by
 have key : ∀ (q : Bool) (st : Stmt),(∃ p,st = .If (svE st) (svB st) [] p) → trO (evs TA (n + 8)) fmF.names ⟨rhoF m i t (.int b) (chD c),some (vPerm,acc)⟩ (svE st) = some q → svO st = [] → svB st = [nth (svB st) 0,nth (svB st) 1] → (∃ p,nth (svB st) 0 = .Expr (svE (nth (svB st) 0)) p) → (∃ p,nth (svB st) 1 = .Break p) →
   methE (evs TA (n + 7)) fmF.names ⟨rhoF m i t (.int b) (chD c),some (vPerm,acc)⟩ (svE (nth (svB st) 0)) = (ownAct (Str.ofString "append") acc (chD c)).map (fun ds => (Out.next,(⟨rhoF m i t (.int b) (chD c),some (vPerm,ds)⟩ : St))) →
   (evs TA (n + 9)).ss fmF.names (some vPerm) ⟨rhoF m i t (.int b) (chD c),some (vPerm,acc)⟩ [st] =
   some (.ok (cond q (.brk,⟨rhoF m i t (.int b) (chD c),some (vPerm,acc ++ [chD c])⟩) (.next,⟨rhoF m i t (.int b) (chD c),some (vPerm,acc)⟩))):=fun q st h1 h2 h3 h4 h5 h6 h7 => by
  refine ss_ifV (h3.symm ▸ h1) h2 ?_
  cases q with
  | false => rw [h3];rfl
  | true =>
   show (evs TA (n + 7 + 1)).ss _ _ _ (svB st) = _
   rw [h4]
   exact fm_app (n + 7) hl h5 h7 (by obtain ⟨p,e⟩:=h6;rw [e];rfl)
 cases i with
 | zero => exact ss_ifV (st:=nth (svB fmI) 0) (t:=true) ⟨_,rfl⟩ (by kernel_rfl) (key _ (nth (svB (nth (svB fmI) 0)) 0) ⟨_,rfl⟩ (by kernel_rfl) (by kernel_rfl) (by kernel_rfl) ⟨_,rfl⟩ ⟨_,rfl⟩ (by kernel_rfl))
 | succ i => exact ss_ifV (st:=nth (svB fmI) 0) (t:=false) ⟨_,rfl⟩ (by kernel_rfl) (key _ (nth (svO (nth (svB fmI) 0)) 0) ⟨_,rfl⟩ (by kernel_rfl) (by kernel_rfl) (by kernel_rfl) ⟨_,rfl⟩ ⟨_,rfl⟩ (by kernel_rfl))
noncomputable def pickC (m : Int) (i : Nat) : List (Int × Nat) → Nat
 | [] => cond (i == 0) 63 45
 | (b,c) :: r => cond (tstN m i b) c (pickC m i r)
noncomputable def pairD (p : Int × Nat) : PyData:=.tuple [.int p.1,chD p.2]
set_option maxRecDepth 10000 in
theorem fm_go (n : Nat) (m : Int) (i : Nat) (t : PyData) (acc : List PyData) (hl : acc.length < 1000) : ∀ (ps : List (Int × Nat)) (d e : PyData),∃ d' e',forGo (evs TA (n + 10)) fmF.names (some vPerm) (svT fmI) (svB fmI) (svO fmI) (ps.map pairD) ⟨rhoF m i t d e,some (vPerm,acc)⟩ = some (.next,⟨rhoF m i t d' e',some (vPerm,acc ++ [chD (pickC m i ps)])⟩)
 | [],d,e => ⟨d,e,by
  have h : (evs TA (n + 10)).ss fmF.names (some vPerm) ⟨rhoF m i t d e,some (vPerm,acc)⟩ (svO fmI) = some (.ok (.next,⟨rhoF m i t d e,some (vPerm,acc ++ [chD (cond (i == 0) 63 45)])⟩)):=by
   cases i with
   | zero => exact ss_ifV (st:=nth (svO fmI) 0) (t:=true) ⟨_,rfl⟩ (by kernel_rfl) (fm_app (n + 8) (d:=chD 63) (st:=nth (svB (nth (svO fmI) 0)) 0) (rest:=[]) hl ⟨_,rfl⟩ (by kernel_rfl) (by kernel_rfl))
   | succ i => exact ss_ifV (st:=nth (svO fmI) 0) (t:=false) ⟨_,rfl⟩ (by kernel_rfl) (fm_app (n + 8) (d:=chD 45) (st:=nth (svO (nth (svO fmI) 0)) 0) (rest:=[]) hl ⟨_,rfl⟩ (by kernel_rfl) (by kernel_rfl))
  exact congrArg okR h⟩
 | (b,c) :: ps,d,e => by
  have h:=fm_inner n m i t b c acc hl
  have hb : bindT fmF.names (svT fmI) (pairD (b,c)) (rhoF m i t d e) = some (rhoF m i t (.int b) (chD c)):=by kernel_rfl
  unfold pickC
  cases hq : tstN m i b with
  | true => rw [hq] at h;exact ⟨_,_,forGo_brkV h hb⟩
  | false =>
   rw [hq] at h
   obtain ⟨d',e',hz⟩:=fm_go n m i t acc hl ps (.int b) (chD c)
   exact ⟨d',e',forGo_nextV h hb hz⟩
noncomputable def tabD (ps : List (Int × Nat)) : PyData:=.tuple (ps.map pairD)
theorem fm_turn (n : Nat) (m : Int) (i : Nat) (p : Int × Nat) (ps : List (Int × Nat)) (acc : List PyData) (hl : acc.length < 1000) (ρ : Vars) (hi : iterE (evs TA (n + 10)) fmF.names ρ (svE fmI) = some ((p :: ps).map pairD)) (hb : bindT fmF.names (svT fmI) (pairD p) ρ = some (rhoF m i (tabD (p :: ps)) (.int p.1) (chD p.2))) :
  ∃ d' e',(evs TA (n + 11)).ss fmF.names (some vPerm) ⟨ρ,some (vPerm,acc)⟩ (svB fmO) = some (.ok (.next,⟨rhoF m i (tabD (p :: ps)) d' e',some (vPerm,acc ++ [chD (pickC m i (p :: ps))])⟩)):=by
 obtain ⟨d',e',h⟩:=fm_go n m i (tabD (p :: ps)) acc hl (p :: ps) .none .none
 refine ⟨d',e',ss_forV (st:=fmI) (rest:=[]) ⟨_,rfl⟩ (by kernel_rfl) (by kernel_rfl) hi (Eq.trans ?_ h) (by kernel_rfl)⟩
 show (bindT fmF.names (svT fmI) (pairD p) ρ).bind _ = (bindT fmF.names (svT fmI) (pairD p) (rhoF m i (tabD (p :: ps)) .none .none)).bind _
 rw [hb,show bindT fmF.names (svT fmI) (pairD p) (rhoF m i (tabD (p :: ps)) .none .none) = some (rhoF m i (tabD (p :: ps)) (.int p.1) (chD p.2)) by kernel_rfl]
noncomputable def itemD (q : Nat × (Int × Nat) × List (Int × Nat)) : PyData:=.tuple [.int (q.1 : Int),tabD (q.2.1 :: q.2.2)]
noncomputable def pickQ (m : Int) (q : Nat × (Int × Nat) × List (Int × Nat)) : PyData:=chD (pickC m q.1 (q.2.1 :: q.2.2))
theorem fm_all (n : Nat) (m : Int) : ∀ (qs : List (Nat × (Int × Nat) × List (Int × Nat))) (i : Int) (t d e : PyData) (acc : List PyData),acc.length + qs.length < 1000 →
  ∃ i' t' d' e',forGo (evs TA (n + 11)) fmF.names (some vPerm) (svT fmO) (svB fmO) [] (qs.map itemD) ⟨rhoF m i t d e,some (vPerm,acc)⟩ = some (.next,⟨rhoF m i' t' d' e',some (vPerm,acc ++ qs.map (pickQ m))⟩)
 | [],i,t,d,e,acc,_ => ⟨i,t,d,e,by rw [show acc ++ [].map (pickQ m) = acc from List.append_nil _];rfl⟩
 | (j,p,ps) :: qs,i,t,d,e,acc,hl => by
  rw [List.length_cons] at hl
  obtain ⟨d',e',h⟩:=fm_turn n m j p ps acc (by omega) (rhoF m j (tabD (p :: ps)) d e) (by kernel_rfl) (by kernel_rfl)
  obtain ⟨i',t',d'',e'',hz⟩:=fm_all n m qs j (tabD (p :: ps)) d' e' (acc ++ [chD (pickC m j (p :: ps))]) (by rw [List.length_append];show acc.length + 1 + _ < _;omega)
  rw [List.append_assoc] at hz
  exact ⟨i',t',d'',e'',forGo_nextV h (by kernel_rfl) hz⟩
noncomputable def tabs : List (Nat × (Int × Nat) × List (Int × Nat)):=[(0,(40960,108),[(49152,115),(32768,45),(24576,98),(16384,100),(8192,99),(4096,112)]),(1,(256,114),[]),(2,(128,119),[]),(3,(2112,115),[(2048,83),(64,120)]),(4,(32,114),[]),(5,(16,119),[]),(6,(1032,115),[(1024,83),(8,120)]),(7,(4,114),[]),(8,(2,119),[]),(9,(513,116),[(512,84),(1,120)])]
theorem pick_type : ∀ k : Nat,k < 16 → (cond ((4096 * (k : Int)) == 40960) 108 (cond ((4096 * (k : Int)) == 49152) 115 (cond ((4096 * (k : Int)) == 32768) 45 (cond ((4096 * (k : Int)) == 24576) 98 (cond ((4096 * (k : Int)) == 16384) 100 (cond ((4096 * (k : Int)) == 8192) 99 (cond ((4096 * (k : Int)) == 4096) 112 63))))))) = pT k:=by decide +kernel
theorem pick_tri (m : Int) (i k j : Nat) {n u v : Int} {a b : Nat} (hn : (2 : Int) ^ k * (2 * 2 ^ j + 1) = n) (hu : (2 : Int) ^ k = u) (hv : (2 : Int) ^ k * 2 * 2 ^ j = v) (h : 0 < u ∧ 0 < v ∧ u + v = n) (hv' : (2 : Int) ^ (k + (1 + j)) = v) :
  pickC m (i + 1) [(n,a),(v,b),(u,120)] = cX (bt m u) (bt m v) a b:=by
 show cond (Builtin.bitAnd m n == n) a (cond (Builtin.bitAnd m v == v) b (cond (Builtin.bitAnd m u == u) 120 45)) = _
 rw [tst2 m k j hn hu hv h,tst1 m _ hv' h.2.1,tst1 m _ hu h.1]
 cases bt m u <;> cases bt m v <;> rfl
theorem pick_one (m : Int) (i k : Nat) {n : Int} {a : Nat} (hn : (2 : Int) ^ k = n) (h : 0 < n) : pickC m (i + 1) [(n,a)] = cR (bt m n) a:=by
 show cond (Builtin.bitAnd m n == n) a 45 = _
 rw [tst1 m k hn h];rfl
theorem picks_eq (m : Int) : tabs.map (pickQ m) = (sg m).map chD:=by
 have h0 : pickC m 0 [(40960,108),(49152,115),(32768,45),(24576,98),(16384,100),(8192,99),(4096,112)] = pT (m / 4096 % 16).toNat:=by
  obtain ⟨k,e⟩:=Int.eq_ofNat_of_zero_le (Int.emod_nonneg (m / 4096) (show (16 : Int) ≠ 0 by decide))
  have hk:=Int.emod_lt_of_pos (m / 4096) (show (0 : Int) < 16 by decide)
  have q:=pick_type k (Int.ofNat_lt.mp (e ▸ hk))
  rw [← e,← tstT] at q
  rw [e,Int.toNat_natCast]
  exact q
 show [chD _,chD _,chD _,chD _,chD _,chD _,chD _,chD _,chD _,chD _] = _
 rw [h0,pick_one m 0 8 (by decide) (by decide),pick_one m 1 7 (by decide) (by decide),pick_tri m 2 6 4 (by decide) (by decide) (by decide) (by decide) (by decide),pick_one m 3 5 (by decide) (by decide),pick_one m 4 4 (by decide) (by decide),
  pick_tri m 5 3 6 (by decide) (by decide) (by decide) (by decide) (by decide),pick_one m 6 2 (by decide) (by decide),pick_one m 7 1 (by decide) (by decide),pick_tri m 8 0 8 (by decide) (by decide) (by decide) (by decide) (by decide)]
 rfl
noncomputable def kinds : List (Int × Nat):=[(49152,115),(32768,45),(24576,98),(16384,100),(8192,99),(4096,112)]
set_option maxRecDepth 10000 in
theorem fm_loop (n : Nat) (m : Int) : ∃ i t d e,forGo (evs TA (n + 11)) fmF.names (some vPerm) (svT fmO) (svB fmO) [] (tabs.map itemD) ⟨[(Str.ofString "mode",.int m)],some (vPerm,[])⟩ = some (.next,⟨rhoF m i t d e,some (vPerm,(sg m).map chD)⟩):=by
 obtain ⟨d,e,h0⟩:=fm_turn n m 0 (40960,108) kinds [] (by decide) (rhoI m 0 (tabD ((40960,108) :: kinds))) (by kernel_rfl) (by kernel_rfl)
 obtain ⟨i',t',d',e',h1⟩:=fm_all n m tabs.tail 0 (tabD ((40960,108) :: kinds)) d e ([] ++ [chD (pickC m 0 ((40960,108) :: kinds))]) (by show 0 + 1 + 9 < 1000;decide)
 rw [show [] ++ [chD (pickC m 0 ((40960,108) :: kinds))] ++ tabs.tail.map (pickQ m) = (sg m).map chD from (show _ = tabs.map (pickQ m) from rfl).trans (picks_eq m)] at h1
 exact ⟨i',t',d',e',forGo_nextV h0 (show bindT _ _ (itemD (0,(40960,108),kinds)) _ = _ by kernel_rfl) h1⟩
set_option maxRecDepth 10000 in
theorem filemode_fn (n : Nat) (m : Int) : (evs TA (n + 14)).fn (Str.ofString "filemode") [.int m] = some (.ok (.str (Sc (sg m)))):=by
 refine fn_eq (F:=fmF) (by kernel_rfl) (by rfl) ?_
 obtain ⟨i,t,d,e,h⟩:=fm_loop n m
 have key : (evs TA (n + 13)).ss fmF.names (some vPerm) ⟨[(Str.ofString "mode",.int m)],none⟩ fmF.body = some (.ok (.ret (.str (Sc (sg m))),⟨rhoF m i t d e,some (vPerm,(sg m).map chD)⟩)) :=
  ss_ownV (st:=nth fmF.body 0) (rest:=[fmO,nth fmF.body 2]) ⟨_,_,rfl⟩ (by kernel_rfl) (by kernel_rfl) (by kernel_rfl) (ds:=[]) (by kernel_rfl)
   (ss_enumV (st:=fmO) (a:=.Name (Str.ofString "_filemode_table") ⟨101,34,101,49⟩) ⟨_,rfl⟩ (by kernel_rfl) (by kernel_rfl) (by kernel_rfl) (ds:=tabs.map fun q => tabD (q.2.1 :: q.2.2)) (by kernel_rfl)
    ((congrArg (fun z => forGo _ _ _ _ _ _ z _) (show enumItems _ = tabs.map itemD by kernel_rfl)).trans h) (by kernel_rfl))
 exact congrArg (fun z => Rs.bind z _) key
end
section
open PySem.StrLaws PySem.Builtin.Str
variable [bs : Base]
noncomputable def clB (r w r' w' : Bool) : Bool:=(w && (r' || w')) || (w' && r)
noncomputable def clP (m m' : Int) : Bool:=clB (bt m 256) (bt m 128) (bt m' 256) (bt m' 128) || (clB (bt m 32) (bt m 16) (bt m' 32) (bt m' 16) || clB (bt m 4) (bt m 2) (bt m' 4) (bt m' 2))
noncomputable def oddF : Fn:=fnAt PP none 38
noncomputable def oddB : List Stmt:=svB (nth oddF.body 0)
noncomputable def rhoO (x y : Str) (k : Nat) : Vars:=[(Str.ofString "one",.str x),(Str.ofString "other",.str y),(Str.ofString "k",natD k)]
theorem odd_1 (n : Nat) (r w r' w' : Bool) (a0 a3 a4 a5 a6 a7 a8 a9 b0 b3 b4 b5 b6 b7 b8 b9 : Nat) : (evs TA (n + 12)).ss oddF.names none ⟨rhoO (Sc [a0,cR r 114,cR w 119,a3,a4,a5,a6,a7,a8,a9]) (Sc [b0,cR r' 114,cR w' 119,b3,b4,b5,b6,b7,b8,b9]) 1,none⟩ oddB =
  some (.ok (cond (clB r w r' w') (.ret (.bool true)) .next,⟨rhoO (Sc [a0,cR r 114,cR w 119,a3,a4,a5,a6,a7,a8,a9]) (Sc [b0,cR r' 114,cR w' 119,b3,b4,b5,b6,b7,b8,b9]) 1,none⟩)):=by
 cases r <;> cases w <;> cases r' <;> cases w' <;> kernel_rfl
theorem odd_4 (n : Nat) (r w r' w' : Bool) (a0 a1 a2 a3 a6 a7 a8 a9 b0 b1 b2 b3 b6 b7 b8 b9 : Nat) : (evs TA (n + 12)).ss oddF.names none ⟨rhoO (Sc [a0,a1,a2,a3,cR r 114,cR w 119,a6,a7,a8,a9]) (Sc [b0,b1,b2,b3,cR r' 114,cR w' 119,b6,b7,b8,b9]) 4,none⟩ oddB =
  some (.ok (cond (clB r w r' w') (.ret (.bool true)) .next,⟨rhoO (Sc [a0,a1,a2,a3,cR r 114,cR w 119,a6,a7,a8,a9]) (Sc [b0,b1,b2,b3,cR r' 114,cR w' 119,b6,b7,b8,b9]) 4,none⟩)):=by
 cases r <;> cases w <;> cases r' <;> cases w' <;> kernel_rfl
theorem odd_7 (n : Nat) (r w r' w' : Bool) (a0 a1 a2 a3 a4 a5 a6 a9 b0 b1 b2 b3 b4 b5 b6 b9 : Nat) : (evs TA (n + 12)).ss oddF.names none ⟨rhoO (Sc [a0,a1,a2,a3,a4,a5,a6,cR r 114,cR w 119,a9]) (Sc [b0,b1,b2,b3,b4,b5,b6,cR r' 114,cR w' 119,b9]) 7,none⟩ oddB =
  some (.ok (cond (clB r w r' w') (.ret (.bool true)) .next,⟨rhoO (Sc [a0,a1,a2,a3,a4,a5,a6,cR r 114,cR w 119,a9]) (Sc [b0,b1,b2,b3,b4,b5,b6,cR r' 114,cR w' 119,b9]) 7,none⟩)):=by
 cases r <;> cases w <;> cases r' <;> cases w' <;> kernel_rfl
theorem ss_forR {T : Tab} {n : Nat} {sc : Names} {ow : Option Str} {σ σ' : St} {st : Stmt} {rest : List Stmt} {ds : List PyData} {d : PyData} (hs : ∃ p,st = .For (svT st) (svE st) (svB st) (svO st) p) (hoff : offT ow (svT st) = true) (he : enumArg sc (svE st) = none) (hi : iterE (evs T n) sc σ.ρ (svE st) = some ds) (h : forGo (evs T n) sc ow (svT st) (svB st) (svO st) ds σ = some (.ret d,σ')) :
  (evs T (n + 1)).ss sc ow σ (st :: rest) = some (.ok (.ret d,σ')):=by
 obtain ⟨p,e⟩:=hs
 generalize svT st = t at e h hoff
 generalize svE st = i at e hi he
 generalize svB st = a at e h
 generalize svO st = b at e h
 subst e
 rw [ev_ss,s_cons,s_for,if_pos hoff,he]
 show (Rs.up ((iterE (evs T n) sc σ.ρ i).bind _)).bind _ = _
 rw [hi]
 show (Rs.up (forGo (evs T n) sc ow t a b ds σ)).bind _ = _
 rw [h]
 rfl
set_option maxRecDepth 10000 in
theorem odds_fn (n : Nat) (m m' : Int) : (evs TA (n + 14)).fn (Str.ofString "_law_odds") [.str (Sc (sg m)),.str (Sc (sg m'))] = some (.ok (.bool (clP m m'))):=by
 refine fn_eq (F:=oddF) (by kernel_rfl) (by rfl) ?_
 have t1:=odd_1 n (bt m 256) (bt m 128) (bt m' 256) (bt m' 128) (pT (m / 4096 % 16).toNat) (cX (bt m 64) (bt m 2048) 115 83) (cR (bt m 32) 114) (cR (bt m 16) 119) (cX (bt m 8) (bt m 1024) 115 83) (cR (bt m 4) 114) (cR (bt m 2) 119) (cX (bt m 1) (bt m 512) 116 84) (pT (m' / 4096 % 16).toNat) (cX (bt m' 64) (bt m' 2048) 115 83) (cR (bt m' 32) 114) (cR (bt m' 16) 119) (cX (bt m' 8) (bt m' 1024) 115 83) (cR (bt m' 4) 114) (cR (bt m' 2) 119) (cX (bt m' 1) (bt m' 512) 116 84)
 have t2:=odd_4 n (bt m 32) (bt m 16) (bt m' 32) (bt m' 16) (pT (m / 4096 % 16).toNat) (cR (bt m 256) 114) (cR (bt m 128) 119) (cX (bt m 64) (bt m 2048) 115 83) (cX (bt m 8) (bt m 1024) 115 83) (cR (bt m 4) 114) (cR (bt m 2) 119) (cX (bt m 1) (bt m 512) 116 84) (pT (m' / 4096 % 16).toNat) (cR (bt m' 256) 114) (cR (bt m' 128) 119) (cX (bt m' 64) (bt m' 2048) 115 83) (cX (bt m' 8) (bt m' 1024) 115 83) (cR (bt m' 4) 114) (cR (bt m' 2) 119) (cX (bt m' 1) (bt m' 512) 116 84)
 have t3:=odd_7 n (bt m 4) (bt m 2) (bt m' 4) (bt m' 2) (pT (m / 4096 % 16).toNat) (cR (bt m 256) 114) (cR (bt m 128) 119) (cX (bt m 64) (bt m 2048) 115 83) (cR (bt m 32) 114) (cR (bt m 16) 119) (cX (bt m 8) (bt m 1024) 115 83) (cX (bt m 1) (bt m 512) 116 84) (pT (m' / 4096 % 16).toNat) (cR (bt m' 256) 114) (cR (bt m' 128) 119) (cX (bt m' 64) (bt m' 2048) 115 83) (cR (bt m' 32) 114) (cR (bt m' 16) 119) (cX (bt m' 8) (bt m' 1024) 115 83) (cX (bt m' 1) (bt m' 512) 116 84)
 rw [clP]
 change (evs TA (n + 12)).ss oddF.names none ⟨rhoO (Sc (sg m)) (Sc (sg m')) 1,none⟩ oddB = some (.ok (_,⟨rhoO (Sc (sg m)) (Sc (sg m')) 1,none⟩)) at t1
 change (evs TA (n + 12)).ss oddF.names none ⟨rhoO (Sc (sg m)) (Sc (sg m')) 4,none⟩ oddB = some (.ok (_,⟨rhoO (Sc (sg m)) (Sc (sg m')) 4,none⟩)) at t2
 change (evs TA (n + 12)).ss oddF.names none ⟨rhoO (Sc (sg m)) (Sc (sg m')) 7,none⟩ oddB = some (.ok (_,⟨rhoO (Sc (sg m)) (Sc (sg m')) 7,none⟩)) at t3
 generalize clB (bt m 256) (bt m 128) (bt m' 256) (bt m' 128) = c1 at t1 ⊢
 generalize clB (bt m 32) (bt m 16) (bt m' 32) (bt m' 16) = c2 at t2 ⊢
 generalize clB (bt m 4) (bt m 2) (bt m' 4) (bt m' 2) = c3 at t3 ⊢
 generalize Sc (sg m) = x at *
 generalize Sc (sg m') = y at *
 have b1 : bindT oddF.names (svT (nth oddF.body 0)) (.int 1) [(Str.ofString "one",.str x),(Str.ofString "other",.str y)] = some (rhoO x y 1):=by kernel_rfl
 have b2 : bindT oddF.names (svT (nth oddF.body 0)) (.int 4) (rhoO x y 1) = some (rhoO x y 4):=by kernel_rfl
 have b3 : bindT oddF.names (svT (nth oddF.body 0)) (.int 7) (rhoO x y 4) = some (rhoO x y 7):=by kernel_rfl
 have R : ∀ σ' : St,forGo (evs TA (n + 12)) oddF.names none (svT (nth oddF.body 0)) oddB (svO (nth oddF.body 0)) [.int 1,.int 4,.int 7] ⟨[(Str.ofString "one",.str x),(Str.ofString "other",.str y)],none⟩ = some (.ret (.bool true),σ') → (evs TA (n + 13)).ss oddF.names none ⟨[(Str.ofString "one",.str x),(Str.ofString "other",.str y)],none⟩ oddF.body = some (.ok (.ret (.bool true),σ')):=fun σ' h =>
  ss_forR (n:=n + 12) (st:=nth oddF.body 0) (rest:=[nth oddF.body 1]) (ds:=[.int 1,.int 4,.int 7]) ⟨_,rfl⟩ (by kernel_rfl) (by kernel_rfl) (by kernel_rfl) h
 have key : ∃ σ,(evs TA (n + 13)).ss oddF.names none ⟨[(Str.ofString "one",.str x),(Str.ofString "other",.str y)],none⟩ oddF.body = some (.ok (.ret (.bool (c1 || (c2 || c3))),σ)):=by
  cases c1 with
  | true => exact ⟨_,R _ ((forGo_step (z:=(.ret (.bool true),_)) b1 t1).trans rfl)⟩
  | false =>
   cases c2 with
   | true => exact ⟨_,R _ (forGo_nextV t1 b1 ((forGo_step (z:=(.ret (.bool true),_)) b2 t2).trans rfl))⟩
   | false =>
    cases c3 with
    | true => exact ⟨_,R _ (forGo_nextV t1 b1 (forGo_nextV t2 b2 ((forGo_step (z:=(.ret (.bool true),_)) b3 t3).trans rfl)))⟩
    | false => exact ⟨⟨rhoO x y 7,none⟩,ss_forV (z:=(.ret (.bool false),⟨rhoO x y 7,none⟩)) (n:=n + 12) (st:=nth oddF.body 0) (rest:=[nth oddF.body 1]) (ds:=[.int 1,.int 4,.int 7]) ⟨_,rfl⟩ (by kernel_rfl) (by kernel_rfl) (by kernel_rfl) (forGo_nextV t1 b1 (forGo_nextV t2 b2 (forGo_nextV t3 b3 forGo_nil))) (by kernel_rfl)⟩
 obtain ⟨σ,key⟩:=key
 exact congrArg (fun z => Rs.bind z _) key
theorem lay_row (r : List Nat) : Lay 1 (rowD r):=lay_map fun ζ ζ => lay_int _
theorem ne_none (r : List Nat) : cmpop .NotEq (rowD r) (.list []) = some (!r.isEmpty):=by
 refine (co_nel ⟨(lay_row r).shaped (by decide),by decide +kernel⟩).trans ?_
 cases r <;> rfl
noncomputable def claF : Fn:=fnAt PP none 39
noncomputable def rwI (m c : Int) : Int:=((m.fdiv c).fmod 8).fdiv 2
theorem rwI_eq (m : Int) {c a b : Int} (hc : 0 < c) (ha : c * 4 = a) (hb : c * 2 = b) : rwI m c = cond (bt m a) 2 0 + cond (bt m b) 1 0:=by
 subst ha hb
 unfold rwI bt
 rw [fd _ (Int.le_of_lt hc) (by decide),Int.fdiv_eq_ediv_of_nonneg _ (by decide),← Int.ediv_ediv_of_nonneg (Int.le_of_lt hc),← Int.ediv_ediv_of_nonneg (Int.le_of_lt hc)]
 generalize m / c = y
 rw [show y % 8 / 2 = y / 2 % 4 from md y (a:=2) (b:=4) (by decide)]
 have e1 : y / 4 % 2 = y / 2 / 2 % 2:=by rw [Int.ediv_ediv_of_nonneg (by decide)];rfl
 rw [e1]
 generalize y / 2 = z
 have h1:=Int.emod_two_eq z
 have h2:=Int.emod_two_eq (z / 2)
 rcases h1 with h1 | h1 <;> rcases h2 with h2 | h2 <;> rw [h1,h2] <;> simp only [beq_self_eq_true,show ((0 : Int) == 1) = false from rfl,cond_true,cond_false] <;> omega
theorem cla_in (r w r' w' : Bool) : ((binop .Mult (.int (cond r 2 0 + cond w 1 0)) (.int (cond r' 2 0 + cond w' 1 0))).bind fun v => cmpop .NotIn v (.tuple [.int 0,.int 4])) = some (clB r w r' w'):=by
 cases r <;> cases w <;> cases r' <;> cases w' <;> kernel_rfl
set_option maxRecDepth 10000 in
theorem clash_fn (n : Nat) (m m' : Int) : (evs TA (n + 20)).fn (Str.ofString "_law_clash") [.int m,.int m'] = some (.ok (.bool (clP m m'))):=by
 refine fn_eq (F:=claF) (by kernel_rfl) (by rfl) ?_
 let p : Nat → Bool:=fun c => clB (bt m (c * 4 : Nat)) (bt m (c * 2 : Nat)) (bt m' (c * 4 : Nat)) (bt m' (c * 2 : Nat))
 have h : (evs TA (n + 17)).ex claF.names [(Str.ofString "one",.int m),(Str.ofString "other",.int m')] (cvE (svE (nth claF.body 0))) = some (rowD ([1,8,64].filter p)) :=
  compN (n:=n + 16) (xs:=[1,8,64]) (Str.ofString "c") natD p natD ⟨_,rfl⟩ (by kernel_rfl) (by kernel_rfl) (by decide) fun c hc => ⟨tests_one ?_,fun ζ => by kernel_rfl⟩
 ·have key : ∃ ρ,(evs TA (n + 19)).ss claF.names none ⟨[(Str.ofString "one",.int m),(Str.ofString "other",.int m')],none⟩ claF.body = some (.ok (.ret (.bool (clP m m')),ρ)) :=
   ⟨_,ss_retV (st:=nth claF.body 0) (rest:=[]) ⟨_,rfl⟩ ((show _ = ((evs TA (n + 17)).ex claF.names [(Str.ofString "one",.int m),(Str.ofString "other",.int m')] (cvE (svE (nth claF.body 0)))).bind (fun d => (cmpop .NotEq d (.list [])).bind fun c => some (.bool c)) by kernel_rfl).trans (by
    rw [h,Option.bind_some,ne_none]
    refine congrArg (fun b => some (PyData.bool b)) ?_
    show (!(List.filter p [1,8,64]).isEmpty) = (p 64 || (p 8 || p 1))
    simp only [List.filter_cons,List.filter_nil]
    cases p 1 <;> cases p 8 <;> cases p 64 <;> rfl))⟩
  obtain ⟨ρ,key⟩:=key
  exact congrArg (fun z => Rs.bind z _) key
 ·have go : ∀ c : Nat,0 < (c : Int) → ((binop .Mult (.int (rwI m c)) (.int (rwI m' c))).bind fun v => cmpop .NotIn v (.tuple [.int 0,.int 4])) = some (p c):=fun c h => by
   rw [rwI_eq m h (a:=(c * 4 : Nat)) (b:=(c * 2 : Nat)) (by omega) (by omega),rwI_eq m' h (a:=(c * 4 : Nat)) (b:=(c * 2 : Nat)) (by omega) (by omega)]
   exact cla_in ..
  simp only [List.mem_cons,List.not_mem_nil,or_false] at hc
  rcases hc with rfl | rfl | rfl
  ·exact (show _ = ((binop .Mult (.int (rwI m (1 : Nat))) (.int (rwI m' (1 : Nat)))).bind fun v => cmpop .NotIn v (.tuple [.int 0,.int 4])) by kernel_rfl).trans (go 1 (by decide))
  ·exact (show _ = ((binop .Mult (.int (rwI m (8 : Nat))) (.int (rwI m' (8 : Nat)))).bind fun v => cmpop .NotIn v (.tuple [.int 0,.int 4])) by kernel_rfl).trans (go 8 (by decide))
  ·exact (show _ = ((binop .Mult (.int (rwI m (64 : Nat))) (.int (rwI m' (64 : Nat)))).bind fun v => cmpop .NotIn v (.tuple [.int 0,.int 4])) by kernel_rfl).trans (go 64 (by decide))
end
section
open PySem.StrLaws PySem.Builtin.Str
variable [bs : Base]
section
variable {T : Tab} {n : Nat} {sc : Names} {ρ : Vars} {E : Expr} {α : Type} {xs : List α}
theorem compG (e : α → PyData) (ρ' : α → Vars) (p : α → Bool) (f : α → PyData) (hE : ∃ q,E = .ListComp (cvE E) [⟨cvT 0 E,cvI 0 E,cvF 0 E,0⟩] (cvS E) q) (hs : okScope sc (cvS E) = true ∧ isSet (cvI 0 E) = false) (hn : (namesT (cvT 0 E)).all (fun x => ((freeOf (cvS E) ρ).lookup x).isNone) = true) (hit : iterE (evs T n) sc ρ (cvI 0 E) = some (xs.map e)) (hl : xs.length ≤ 1000000)
  (h : ∀ x ∈ xs,bindT (cvS E).names (cvT 0 E) (e x) (freeOf (cvS E) ρ) = some (ρ' x) ∧ testsE (evs T n) (cvS E).names (ρ' x) (cvF 0 E) = some (p x) ∧ (p x = true → (evs T n).ex (cvS E).names (ρ' x) (cvE E) = some (f x))) : (evs T (n + 1)).ex sc ρ E = some (.list ((xs.filter p).map f)):=by
 obtain ⟨q,hE⟩:=hE
 generalize cvE E = elt at *
 generalize cvT 0 E = t at *
 generalize cvI 0 E = it at *
 generalize cvF 0 E = ifs at *
 generalize cvS E = scope at *
 subst hE
 have hst : (evs T n).still = false:=by cases n <;> rfl
 rw [ev_ex,x_lcomp,c_list,if_pos ⟨hs.1,by rw [List.all_cons,hs.2,hst];rfl⟩,hit,Option.bind_some]
 unfold compGo
 have k:=clauseM (r:=evs T n) (ρ:=freeOf scope ρ) (inner:=fun ρ' acc => ((evs T n).ex scope.names ρ' elt).bind fun d => if acc.length ≤ 1048576 then some (acc ++ [d]) else none) (p:=p) (g:=fun x => [f x]) e xs [] (fun x hx => ⟨_,(h x hx).1,(h x hx).2.1,fun hp acc ha => by
  rw [(h x hx).2.2 hp,Option.bind_some,if_pos (Nat.le_trans (Nat.le_trans (Nat.le_add_right _ _) ha) (by decide))]⟩) (by
  rw [flat_one,List.length_map]
  exact Nat.le_trans (Nat.le_of_eq (Nat.zero_add _)) (Nat.le_trans (List.length_filter_le _ _) hl))
 rw [if_pos ⟨hn,rfl⟩,k,flat_one]
 rfl
end
theorem filter_true {α : Type} (l : List α) : l.filter (fun ζ => true) = l:=List.filter_eq_self.mpr fun ζ ζ => rfl
section
variable (m : Nat → Int) (w : Nat → Nat × Nat) (b : Nat → Bool)
noncomputable def ws5 : List (Nat × Nat):=(List.range 5).map w
noncomputable def rho9 : Vars:=rhoB m w b ++ [(Str.ofString "told",toldT (toldD m w b))]
theorem book_eq : (evs TA 100).ex lawF.names (rho9 m w b) (svE (LB 10)) = some (.dict (bookD m 4)):=by kernel_rfl
noncomputable def rho10 : Vars:=rho9 m w b ++ [(Str.ofString "book",.dict (bookD m 4))]
set_option maxRecDepth 10000 in
theorem refused_eq : (evs TA 100).ex lawF.names (rho10 m w b) (svE (LB 11)) = some (.list (noD b 4)):=by
 have h : (evs TA 99).ex lawF.names (rho10 m w b) (cvE (svE (LB 11))) = some (.list (((List.range 4).flatMap (spL b)).map sT)):=by
  have e : (((List.range 4).filter fun ζ => true).flatMap fun k => ((spL b k).filter fun ζ => true).map sT) = ((List.range 4).flatMap (spL b)).map sT:=by
   rw [filter_true,List.map_flatMap]
   exact congrArg (fun f => List.flatMap f _) (funext fun k => by rw [filter_true])
  refine (compNN (n:=98) (xs:=List.range 4) (Str.ofString "part") (Str.ofString "text") (fun k => .list ((spL b k).map sT)) (fun ζ => true) (spL b) sT (fun ζ ζ => true) (fun ζ x => sT x) ⟨_,rfl⟩ (by kernel_rfl) ⟨by kernel_rfl,by kernel_rfl,by kernel_rfl,by rw [ne_eq,ofString_iff];decide⟩ (by kernel_rfl)
   (by rw [e];have:=no_len b 4 (by decide);rw [noD,List.length_cons] at this;omega) fun k hk => ⟨by kernel_rfl,fun ζ => ⟨by kernel_rfl,fun x ζ => ⟨by kernel_rfl,fun ζ => by kernel_rfl⟩⟩⟩).trans (by rw [e])
 refine (bin_ex (n:=99) (a:=cvT 0 (svE (LB 11))) (b:=cvE (svE (LB 11))) (op:=.Add) ⟨_,rfl⟩ (by kernel_rfl) (show _ = some (.list [sT "no 226 all told"]) by kernel_rfl) h).trans (bo_addl ?_)
 have:=no_len b 4 (by decide)
 rw [noD,List.length_cons] at this
 rw [List.length_singleton]
 unfold lim
 omega
noncomputable def rho11 : Vars:=rho10 m w b ++ [(Str.ofString "refused",.list (noD b 4))]
noncomputable def rhsE (e : Expr) : Expr:=if h : e.ctorIdx = 15 then Expr.Compare.elim (motive_1:=fun ζ => Expr) e h fun a ζ bs ζ => (bs[0]?).getD a else e
noncomputable def itemE (i : Nat) (e : Expr) : Expr:=(((tupOf e).getD [])[i]?).getD e
noncomputable def anewE : Expr:=rhsE (svE (LB 12))
variable {w} (hw : ∀ k,W4 (w k))
include hw
set_option maxRecDepth 10000 in
theorem heard_anew : (evs TA 99).ex lawF.names (rho11 m w b) (itemE 1 anewE) = some (.list (hearD w)):=by
 refine (compG (n:=98) (xs:=List.range 5) (fun k => pairN (w k)) (fun k => [(Str.ofString "names",namesD),(Str.ofString "a",natD (w k).1),(Str.ofString "b",natD (w k).2)]) (fun ζ => true) (fun k => .str (wS (w k))) ⟨_,rfl⟩ ⟨by kernel_rfl,by kernel_rfl⟩ (by kernel_rfl) (by kernel_rfl) (by decide) fun k hk => ⟨by kernel_rfl,by kernel_rfl,fun ζ => ?_⟩).trans (by rw [filter_true];rfl)
 obtain ⟨h1,h2⟩:=hw k
 refine (show _ = (((getitem namesD (natD (w k).1)).bind fun x => binop .Add x (sT "/")).bind fun x => (getitem namesD (natD (w k).2)).bind fun y => binop .Add x y) by kernel_rfl).trans ?_
 rw [gi_names h1,gi_names h2]
 exact wS_add (w k)
theorem anew_eq : (evs TA 100).ex lawF.names (rho11 m w b) anewE = some (toldT (toldD m w b)) :=
 (show _ = (((((evs TA 99).ex lawF.names (rho11 m w b) (itemE 1 anewE)).bind fun d => some [d,.list (noD b 4)]).bind fun ds => some (.dict (bookD m 4) :: ds)).bind fun ds => some (PyData.tuple ds)) by kernel_rfl).trans (by rw [heard_anew m b hw];rfl)
omit hw
variable (w)
noncomputable def signsD : PyData:=.dict ((List.range 4).map fun k => (.str (nm k),.str (Sc (sg (m k)))))
noncomputable def sgStep (F : Nat → Rs PyData) (acc : List (PyData × PyData)) (k : Nat) : Option (List (PyData × PyData)):=(okR (F k)).bind fun v => if acc.length ≤ 1048576 then some (putD acc (nm k) v) else none
set_option maxRecDepth 10000 in
theorem signs_eq : (evs TA 100).ex lawF.names (rho11 m w b) (svE (LB 13)) = some (signsD m):=by
 refine (show _ = ((sgStep (fun k => (evs TA 98).fn (Str.ofString "filemode") [.int (m k)]) [] 0).bind fun a => (sgStep (fun k => (evs TA 98).fn (Str.ofString "filemode") [.int (m k)]) a 1).bind fun a => (sgStep (fun k => (evs TA 98).fn (Str.ofString "filemode") [.int (m k)]) a 2).bind fun a => (sgStep (fun k => (evs TA 98).fn (Str.ofString "filemode") [.int (m k)]) a 3).bind fun a => some a).bind (fun acc => some (PyData.dict acc)) by kernel_rfl).trans ?_
 rw [show (fun k => (evs TA 98).fn (Str.ofString "filemode") [.int (m k)]) = fun k => some (.ok (.str (Sc (sg (m k))))) from funext fun k => filemode_fn 84 (m k)]
 kernel_rfl
noncomputable def rho13 : Vars:=rho11 m w b ++ [(Str.ofString "signs",signsD m)]
theorem cmp_tr {T : Tab} {n : Nat} {sc : Names} {ρ : Vars} {E x y : Expr} {op : CmpOp} {d1 d2 : PyData} (hE : ∃ p,E = .Compare x [op] [y] p) (hs : isSet y = false) (h1 : (evs T n).ex sc ρ x = some d1) (h2 : (evs T n).ex sc ρ y = some d2) : (evs T (n + 1)).tr sc ρ E = cmpop op d1 d2:=by
 obtain ⟨p,rfl⟩:=hE
 rw [ev_tr,t_cmp,if_neg (by rw [hs];exact Bool.false_ne_true),h1,h2]
 rfl
noncomputable def sgL : PyData:=.list ((List.range 4).map fun k => .str (Sc (sg (m k))))
theorem sg_ok (m : Int) : PyData.strOk (Sc (sg m)) = true:=by
 have hb : ∀ (x : Bool) (c : Nat),c < 1114112 → cR x c < 1114112:=fun x c h => by
  cases x with
  | false => exact Nat.lt_of_lt_of_le (show 45 < 46 by decide) (by decide)
  | true => exact h
 have hx : ∀ (x y : Bool) (c d : Nat),c < 1114112 → d < 1114112 → cX x y c d < 1114112:=fun x y c d h h' => by
  cases y with
  | false => cases x with
   | false => exact Nat.lt_of_lt_of_le (show 45 < 46 by decide) (by decide)
   | true => exact Nat.lt_of_lt_of_le (show 120 < 121 by decide) (by decide)
  | true => cases x with
   | false => exact h'
   | true => exact h
 have hT : ∀ k,pT k < 1114112:=fun k => by
  by_cases hk : k < 16
  ·exact Nat.lt_of_lt_of_le ((show ∀ k,k < 16 → pT k < 128 by decide +kernel) k hk) (by decide)
  ·unfold pT
   rw [List.getElem?_eq_none (by rw [show (Lc (Str.ofString "?pc?d?b?-?l?s???")).length = 16 by kernel_rfl];omega)]
   exact Nat.zero_lt_succ _
 have e : ∀ l : List Nat,(∀ c ∈ l,c < 1114112) → PyData.strOk (Sc l) = true:=fun l h => by
  unfold PyData.strOk
  rw [List.all_toArray,List.all_eq_true]
  exact fun c hc => decide_eq_true (h c hc)
 refine e _ fun c hc => ?_
 simp only [sg,List.mem_cons,List.not_mem_nil,or_false] at hc
 rcases hc with rfl | rfl | rfl | rfl | rfl | rfl | rfl | rfl | rfl | rfl
 ·exact hT _
 all_goals first | exact hb _ _ (by decide) | exact hx _ _ _ _ (by decide) (by decide)
set_option maxRecDepth 10000 in
theorem listing_same : (evs TA 100).tr lawF.names (rho13 m w b) (svE (LB 14)) = some false:=by
 have h1 : (evs TA 99).ex lawF.names (rho13 m w b) (cvE (svE (LB 14))) = some (sgL m):=by kernel_rfl
 have h2 : (evs TA 99).ex lawF.names (rho13 m w b) (rhsE (svE (LB 14))) = some (sgL m) :=
  compA (n:=98) (xs:=List.range 4) (Str.ofString "mode") (fun k => .int (m k)) (fun k => .str (Sc (sg (m k)))) ⟨_,rfl⟩ (by kernel_rfl) (by kernel_rfl) (by kernel_rfl) (by decide) fun k ζ => (show _ = okR ((evs TA 97).fn (Str.ofString "_law_listing") [.int (m k)]) by kernel_rfl).trans (congrArg okR (listing_fn 83 (m k)))
 refine (cmp_tr ⟨_,rfl⟩ (by kernel_rfl) h1 h2).trans (ne_self (lay_map (k:=0) fun k ζ => lay_str (sg_ok (m k))) (by decide))
noncomputable def split4 : Bool:=ok4 fun a => ok4 fun b => Txt.split (wS (a,b)) (Str.ofString "/") == [nm a,nm b] && decide ((wS (a,b)).length ≤ 100)
theorem split_ok : split4 = true:=by kernel_rfl
theorem split_w {p : Nat × Nat} (hp : W4 p) : method (Str.ofString "split") (.str (wS p)) [sT "/"] = some (rowP p):=by
 have h:=ok4_at (ok4_at split_ok hp.1) hp.2
 rw [Bool.and_eq_true,beq_iff_eq,decide_eq_true_eq] at h
 refine (m_split ⟨by decide +kernel,Nat.le_trans h.2 (by decide)⟩).trans ?_
 rw [h.1];rfl
include hw
set_option maxRecDepth 10000 in
theorem heard_eq : (evs TA 100).ex lawF.names (rho13 m w b) (svE (LB 15)) = some (.list ((ws5 w).map rowP)):=by
 refine (compA (n:=99) (xs:=List.range 5) (Str.ofString "text") (fun k => .str (wS (w k))) (fun k => rowP (w k)) ⟨_,rfl⟩ (by kernel_rfl) (by kernel_rfl) (by kernel_rfl) (by decide) fun k ζ => ?_).trans (by rw [ws5,List.map_map];rfl)
 exact (show _ = method (Str.ofString "split") (.str (wS (w k))) [sT "/"] by kernel_rfl).trans (split_w (hw k))
omit hw
noncomputable def rho15 : Vars:=rho13 m w b ++ [(Str.ofString "heard",.list ((ws5 w).map rowP))]
theorem gi_signs {k : Nat} (hk : k < 4) : getitem (signsD m) (.str (nm k)) = some (.str (Sc (sg (m k)))):=by
 match k,hk with
 | 0,_ => kernel_rfl
 | 1,_ => kernel_rfl
 | 2,_ => kernel_rfl
 | 3,_ => kernel_rfl
noncomputable def csN (w : Nat → Nat × Nat) : List (Nat × Nat):=(ws5 w).filter fun p => clP (m p.1) (m p.2)
include hw
theorem ws_W4 {p : Nat × Nat} (h : p ∈ ws5 w) : W4 p:=by
 obtain ⟨k,_,rfl⟩:=lMp h
 exact hw k
set_option maxRecDepth 10000 in
theorem counted_eq : (evs TA 100).ex lawF.names (rho15 m w b) (svE (LB 16)) = some (.list ((csN m w).map rowP)):=by
 refine compN (n:=99) (xs:=ws5 w) (Str.ofString "row") rowP (fun p => clP (m p.1) (m p.2)) rowP ⟨_,rfl⟩ (by kernel_rfl) (by kernel_rfl) (by rw [ws5,List.length_map];decide) fun p hp => ⟨tests_one ?_,fun ζ => by kernel_rfl⟩
 obtain ⟨h1,h2⟩:=ws_W4 w hw hp
 refine (show _ = (((getitem (signsD m) (.str (nm p.1))).bind fun x => ((getitem (signsD m) (.str (nm p.2))).bind fun y => some [y]).bind fun ds => some (x :: ds)).bind fun ds => okR ((evs TA 97).fn (Str.ofString "_law_odds") ds)).bind truth by kernel_rfl).trans ?_
 rw [gi_signs m h1,gi_signs m h2]
 exact congrArg (fun z => Option.bind (okR z) truth) (odds_fn 83 (m p.1) (m p.2))
omit hw
noncomputable def rho16 : Vars:=rho15 m w b ++ [(Str.ofString "counted",.list ((csN m w).map rowP))]
end
end
section
open PySem.StrLaws PySem.Builtin.Str
variable [bs : Base]
section
variable (m : Nat → Int) (w : Nat → Nat × Nat) (b : Nat → Bool) (hw : ∀ k,W4 (w k))
theorem cs_len : (csN m w).length ≤ 5:=Nat.le_trans (List.length_filter_le _ _) (by rw [ws5,List.length_map];decide)
theorem cut_eq : (evs TA 100).ex lawF.names (rho16 m w b) (argE 1 (svE (LB 17))) = some (.list ((csN m w).tail.map rowP)):=by
 have:=cs_len m w
 refine (show _ = slice (.list ((csN m w).map rowP)) (some 1) none none by kernel_rfl).trans ?_
 rw [sl_l ⟨by rw [List.length_map];unfold lim;omega,by decide⟩,pickD_tail,← List.map_tail]
theorem top_eq : (evs TA 100).ex lawF.names (rho16 m w b) (argE 2 (svE (LB 17))) = some (waysP [(csN m w).take 1]):=by
 have:=cs_len m w
 refine (show _ = ((slice (.list ((csN m w).map rowP)) none (some (1 : Nat)) none).bind fun d => some [d]).bind (fun ds => some (PyData.list ds)) by kernel_rfl).trans ?_
 rw [sl_l ⟨by rw [List.length_map];unfold lim;omega,by decide⟩,pickD_to,← List.map_take]
 rfl
noncomputable def rho17 (ww : PyData) : Vars:=rho16 m w b ++ [(Str.ofString "ways",ww)]
variable (ww : PyData)
include hw
set_option maxRecDepth 10000 in
theorem pairs_eq : (evs TA 100).ex lawF.names (rho17 m w b ww) (svE (LB 18)) = some (.list ((csN m w).map pairN)):=by
 refine compG (n:=99) (xs:=ws5 w) pairN (fun p => [(Str.ofString "modes",modesD m),(Str.ofString "a",natD p.1),(Str.ofString "b",natD p.2)]) (fun p => clP (m p.1) (m p.2)) pairN ⟨_,rfl⟩ ⟨by kernel_rfl,by kernel_rfl⟩ (by kernel_rfl) (by kernel_rfl) (by rw [ws5,List.length_map];decide) fun p hp => ⟨by kernel_rfl,tests_one ?_,fun ζ => by kernel_rfl⟩
 obtain ⟨h1,h2⟩:=ws_W4 w hw hp
 refine (show _ = (((getitem (modesD m) (natD p.1)).bind fun x => ((getitem (modesD m) (natD p.2)).bind fun y => some [y]).bind fun ds => some (x :: ds)).bind fun ds => okR ((evs TA 97).fn (Str.ofString "_law_clash") ds)).bind truth by kernel_rfl).trans ?_
 rw [gi_mode h1,gi_mode h2]
 exact congrArg (fun z => Option.bind (okR z) truth) (clash_fn 77 (m p.1) (m p.2))
omit hw
noncomputable def rho18 : Vars:=rho17 m w b ww ++ [(Str.ofString "pairs",.list ((csN m w).map pairN))]
end
noncomputable def nthE (i : Nat) (l : List Expr) : Expr:=(l[i]?).getD (.Name Str.empty ⟨0,0,0,0⟩)
noncomputable def inP (cs : List (Nat × Nat)) (k : Nat) : Bool:=cs.any fun p => p.1 == k || p.2 == k
theorem in_pair (k : Nat) (p : Nat × Nat) : cmpop .In (natD k) (pairN p) = some (p.1 == k || p.2 == k):=by
 refine (show _ = some (((p.1 : Int) == (k : Int)) || (((p.2 : Int) == (k : Int)) || false)) by kernel_rfl).trans ?_
 rw [Bool.or_false]
 refine congrArg some (Bool.eq_iff_iff.mpr ?_)
 rw [Bool.or_eq_true,Bool.or_eq_true,beq_iff_eq,beq_iff_eq,beq_iff_eq,beq_iff_eq,Int.ofNat_inj,Int.ofNat_inj]
theorem ne_pairs (l : List (Nat × Nat)) : cmpop .NotEq (.list (l.map pairN)) (.list []) = some (!l.isEmpty):=by
 refine (co_nel ⟨(lay_map (k:=1) fun p ζ => lay_tuple (k:=0) fun x hx => ?_).shaped (by decide),by decide +kernel⟩).trans ?_
 ·rcases cMp hx with rfl | hx
  ·exact lay_int _
  ·rw [sMp hx];exact lay_int _
 ·cases l <;> rfl
theorem any_filter {α : Type} (p : α → Bool) (l : List α) : (!(l.filter p).isEmpty) = l.any p:=by
 induction l with
 | nil => rfl
 | cons a l ih =>
  rw [List.filter_cons,List.any_cons]
  cases p a with
  | true => rfl
  | false => exact ih
noncomputable def namedN (cs : List (Nat × Nat)) : List Str:=([1,3,0,2].filter (inP cs)).map nm
theorem sort_strs {l : List Str} {p : Nat → Bool} (hl : l.Perm (([1,3,0,2].filter p).map nm)) : builtin1 "sorted" (strsD l) = some (strsD (([1,3,0,2].filter p).map nm)):=by
 have h4 : ([nm 1,nm 3,nm 0,nm 2] : List Str).Pairwise fun x y => leS x y = true:=sortedS_pairwise (by kernel_rfl)
 have e : sortT l = ([1,3,0,2].filter p).map nm:=sorted_unique (sortT_sorted _) (h4.sublist ((List.filter_sublist (p:=p) (l:=[1,3,0,2])).map nm)) ((sortT_perm _).trans hl)
 have hn : l.length < 64:=by
  rw [hl.length_eq,List.length_map]
  exact Nat.lt_of_le_of_lt (List.length_filter_le _ _) (by decide)
 show (if (l.map PyData.str).length < 64 then (strsOf (l.map PyData.str)).map (fun ss => PyData.list ((sortT ss).map .str)) else none) = _
 rw [if_pos (by rw [List.length_map];exact hn),strsOf_map,Option.map_some,e]
 rfl
theorem sort_names (p : Nat → Bool) : builtin1 "sorted" (.list (((List.range 4).filter p).map fun k => .str (nm k))) = some (strsD (([1,3,0,2].filter p).map nm)):=by
 have:=sort_strs (l:=((List.range 4).filter p).map nm) (((show (List.range 4).Perm [1,3,0,2] by decide).filter p).map nm)
 rwa [strsD,List.map_map] at this
section
variable (m : Nat → Int) (w : Nat → Nat × Nat) (b : Nat → Bool) (ww : PyData)
set_option maxRecDepth 10000 in
theorem named_eq : (evs TA 100).ex lawF.names (rho18 m w b ww) (svE (LB 19)) = some (strsD (namedN (csN m w))):=by
 have hc:=cs_len m w
 have h : (evs TA 99).ex lawF.names (rho18 m w b ww) (argE 0 (svE (LB 19))) = some (.list (((List.range 4).filter (inP (csN m w))).map fun k => .str (nm k))):=by
  refine compN (n:=98) (xs:=List.range 4) (Str.ofString "k") natD (inP (csN m w)) (fun k => .str (nm k)) ⟨_,rfl⟩ (by kernel_rfl) (by kernel_rfl) (by decide) fun k hk => ⟨tests_one ?_,fun ζ => (show _ = getitem namesD (natD k) by kernel_rfl).trans (gi_names (List.mem_range.mp hk))⟩
  have h2 : (evs TA 97).ex (cvS (argE 0 (svE (LB 19)))).names (setV (freeOf (cvS (argE 0 (svE (LB 19)))) (rho18 m w b ww)) (Str.ofString "k") (natD k)) (cvE (nthE 0 (cvF 0 (argE 0 (svE (LB 19)))))) = some (.list (((csN m w).filter fun p => p.1 == k || p.2 == k).map pairN)) :=
   compN (n:=96) (xs:=csN m w) (Str.ofString "pair") pairN (fun p => p.1 == k || p.2 == k) pairN ⟨_,rfl⟩ (by kernel_rfl) (by kernel_rfl) (Nat.le_trans hc (by decide)) fun p ζ => ⟨tests_one ((show _ = cmpop .In (natD k) (pairN p) by kernel_rfl).trans (in_pair k p)),fun ζ => by kernel_rfl⟩
  refine (cmp_tr (T:=TA) (n:=97) (E:=nthE 0 (cvF 0 (argE 0 (svE (LB 19))))) (d2:=.list []) ⟨_,rfl⟩ (by kernel_rfl) h2 (by kernel_rfl)).trans ((ne_pairs _).trans (congrArg some (any_filter _ _)))
 exact (show _ = ((evs TA 99).ex lawF.names (rho18 m w b ww) (argE 0 (svE (LB 19)))).bind (builtin1 "sorted") by kernel_rfl).trans (by rw [h];exact sort_names _)
end
end
section
open PySem.StrLaws PySem.Builtin.Str
variable [bs : Base]
noncomputable def parF : Fn:=fnAt PP none 41
noncomputable def parB : Stmt:=nth parF.body 1
noncomputable def parC : Stmt:=nth (svB parB) 0
noncomputable def parD : Stmt:=nth (svB parC) 0
noncomputable def parI : Stmt:=nth (svB parD) 1
noncomputable def lineD (b c d : Nat) : PyData:=.tuple [natD 0,natD b,natD c,natD d]
noncomputable def rhoP (cs : List (Nat × Nat)) (t : Int) (b c d : Nat) (ln : PyData) : Vars:=[(Str.ofString "pairs",.list (cs.map pairN)),(Str.ofString "total",.int t),(Str.ofString "b",natD b),(Str.ofString "c",natD c),(Str.ofString "d",natD d),(Str.ofString "line",ln)]
theorem eq_pairs (l : List (Nat × Nat)) : cmpop .Eq (.list (l.map pairN)) (.list []) = some l.isEmpty:=by
 have h:=ne_pairs l
 rw [show cmpop .NotEq (.list (l.map pairN)) (.list []) = (cmpop .Eq (.list (l.map pairN)) (.list [])).map (!·) from rfl] at h
 obtain ⟨x,e,q⟩:=oMp h
 rw [e]
 cases x <;> cases h' : l.isEmpty <;> rw [h'] at q <;> first | rfl | cases q
theorem gi_line {b c d i : Nat} (hi : i < 4) : getitem (lineD b c d) (natD i) = some (natD (mark [0,b,c,d] i)):=by
 match i,hi with
 | 0,_ => kernel_rfl
 | 1,_ => kernel_rfl
 | 2,_ => kernel_rfl
 | 3,_ => kernel_rfl
theorem max_line (b c d : Nat) : builtin1 "max" (lineD b c d) = some (natD ([0,b,c,d].foldl max 0)):=by
 show (([(0 : Int),(b : Int),(c : Int),(d : Int)].max?).map PyData.int) = _
 have e : ∀ x y : Nat,max (x : Int) (y : Int) = ((max x y : Nat) : Int):=fun x y => by omega
 show some (PyData.int (max (max (max (0 : Int) b) c) d)) = some (PyData.int ((max (max (max (max 0 0) b) c) d : Nat) : Int))
 rw [show max (0 : Int) (b : Int) = ((max (max 0 0) b : Nat) : Int) from e (max 0 0) b,e,e]
noncomputable def addN (cs : List (Nat × Nat)) (b c d : Nat) : Int:=cond (lineOk cs [0,b,c,d]) (wgt [0,b,c,d]) 0
section
variable {cs : List (Nat × Nat)} (hc : ∀ p ∈ cs,W4 p) (hl : cs.length ≤ 5)
include hc hl
set_option maxRecDepth 10000 in
theorem par_if (n : Nat) (t : Int) {b c d : Nat} (hb : b < 4 ∧ c < 4 ∧ d < 4) : (evs TA (n + 20)).ss parF.names none ⟨rhoP cs t b c d (lineD b c d),none⟩ [parI] = some (.ok (.next,⟨rhoP cs (t + addN cs b c d) b c d (lineD b c d),none⟩)):=by
 have h : (evs TA (n + 18)).ex parF.names (rhoP cs t b c d (lineD b c d)) (cvE (svE parI)) = some (.list ((cs.filter fun p => mark [0,b,c,d] p.1 == mark [0,b,c,d] p.2).map pairN)) :=
  compN (n:=n + 17) (xs:=cs) (Str.ofString "pair") pairN (fun p => mark [0,b,c,d] p.1 == mark [0,b,c,d] p.2) pairN ⟨_,rfl⟩ (by kernel_rfl) (by kernel_rfl) (Nat.le_trans hl (by decide)) fun p hp => ⟨tests_one ((show _ = (getitem (lineD b c d) (natD p.1)).bind (fun x => (getitem (lineD b c d) (natD p.2)).bind fun y => cmpop .Eq x y) by kernel_rfl).trans (by
   rw [gi_line (hc p hp).1,gi_line (hc p hp).2]
   exact (co_eqi _ _).trans (congrArg some (Bool.eq_iff_iff.mpr (by rw [beq_iff_eq,beq_iff_eq];exact Int.ofNat_inj))))),fun ζ => by kernel_rfl⟩
 have ht : trO (evs TA (n + 19)) parF.names ⟨rhoP cs t b c d (lineD b c d),none⟩ (svE parI) = some (lineOk cs [0,b,c,d]):=by
  rw [trO_none]
  refine (cmp_tr (E:=svE parI) (d2:=.list []) ⟨_,rfl⟩ (by kernel_rfl) h (by kernel_rfl)).trans ((eq_pairs _).trans (congrArg some ?_))
  unfold lineOk
  rw [← any_filter,Bool.not_not]
 refine ss_ifV (st:=parI) ⟨_,rfl⟩ ht ?_
 unfold addN
 cases lineOk cs [0,b,c,d] with
 | false => exact (show _ = some (.ok (Out.next,(⟨rhoP cs t b c d (lineD b c d),none⟩ : St))) by kernel_rfl).trans (by rw [cond_false,Int.add_zero])
 | true =>
  have hk : [0,b,c,d].foldl max 0 < 4:=by show max (max (max (max 0 0) b) c) d < 4;omega
  have hg : getitem (.list ([-1,2,-6,24].map PyData.int)) (natD ([0,b,c,d].foldl max 0)) = some (.int (wgt [0,b,c,d])):=gi_nat ((List.getElem?_map ..).trans (by unfold wgt;rw [List.getElem?_eq_getElem (show _ < ([-1,2,-6,24] : List Int).length from hk)];rfl)) (by decide +kernel)
  refine ss_asgV (st:=nth (svB parI) 0) (rest:=[]) (n:=n + 18) (x:=Str.ofString "total") (d:=.int (t + wgt [0,b,c,d])) ⟨_,_,rfl⟩ (by kernel_rfl) ((show _ = (((builtin1 "max" (lineD b c d)).bind fun i => getitem (.list ([-1,2,-6,24].map PyData.int)) i).bind fun y => binop .Add (.int t) y) by kernel_rfl).trans (by rw [max_line,Option.bind_some,hg];rfl)) (by kernel_rfl)
theorem par_turn (n : Nat) (t : Int) {b c d : Nat} (hb : b < 4 ∧ c < 4 ∧ d < 4) {ρ : Vars} (h1 : (evs TA (n + 20)).ex parF.names ρ (svE (nth (svB parD) 0)) = some (lineD b c d)) (hs : setV ρ (Str.ofString "line") (lineD b c d) = rhoP cs t b c d (lineD b c d)) :
  (evs TA (n + 21)).ss parF.names none ⟨ρ,none⟩ (svB parD) = some (.ok (.next,⟨rhoP cs (t + addN cs b c d) b c d (lineD b c d),none⟩)) :=
 ss_asgV (st:=nth (svB parD) 0) (rest:=[parI]) (x:=Str.ofString "line") ⟨_,_,rfl⟩ (by kernel_rfl) h1 (hs ▸ par_if hc hl n t hb)
theorem par_go (n : Nat) {b c : Nat} (hb : b < 4 ∧ c < 4) : ∀ (ds : List Nat),(∀ d ∈ ds,d < 4) → ∀ (t : Int) (d0 : Nat) (l0 : PyData),∃ d' l',forGo (evs TA (n + 21)) parF.names none (svT parD) (svB parD) [] (ds.map natD) ⟨rhoP cs t b c d0 l0,none⟩ = some (.next,⟨rhoP cs (t + (ds.map (addN cs b c)).sum) b c d' l',none⟩)
 | [],_,t,d0,l0 => ⟨d0,l0,by rw [List.map_nil,List.map_nil,List.sum_nil,Int.add_zero];exact forGo_nil⟩
 | d :: ds,h,t,d0,l0 => by
  obtain ⟨d',l',e⟩:=par_go n hb ds (fun d hd => h d (List.mem_cons_of_mem _ hd)) (t + addN cs b c d) d (lineD b c d)
  rw [Int.add_assoc] at e
  exact ⟨d',l',forGo_nextV (par_turn hc hl n t (ρ:=rhoP cs t b c d l0) ⟨hb.1,hb.2,h d List.mem_cons_self⟩ (by kernel_rfl) (by kernel_rfl)) (by kernel_rfl) e⟩
theorem par_c (n : Nat) {b c k : Nat} (hb : b < 4 ∧ c < 4) (hk : k ≤ 4) (t : Int) (d0 : Nat) (l0 : PyData) (hi : iterE (evs TA (n + 21)) parF.names (rhoP cs t b c d0 l0) (svE parD) = some ((List.range k).map natD)) : ∃ d' l',(evs TA (n + 22)).ss parF.names none ⟨rhoP cs t b c d0 l0,none⟩ (svB parC) = some (.ok (.next,⟨rhoP cs (t + ((List.range k).map (addN cs b c)).sum) b c d' l',none⟩)):=by
 obtain ⟨d',l',e⟩:=par_go hc hl n hb (List.range k) (fun d hd => Nat.lt_of_lt_of_le (List.mem_range.mp hd) hk) t d0 l0
 exact ⟨d',l',ss_forV (st:=parD) (rest:=[]) ⟨_,rfl⟩ (by kernel_rfl) (by kernel_rfl) hi e (by kernel_rfl)⟩
noncomputable def sumP (cs : List (Nat × Nat)) (b c k : Nat) : Int:=((List.range k).map (addN cs b c)).sum
omit hc hl in
theorem parts_sum (cs : List (Nat × Nat)) : 0 + sumP cs 0 0 2 + sumP cs 0 1 3 + sumP cs 1 0 3 + sumP cs 1 1 3 + sumP cs 1 2 4 = partN cs:=by
 have f : ∀ b c k,sumP cs b c k = (((List.range k).map fun d => [0,b,c,d]).map fun l => cond (lineOk cs l) (wgt l) 0).sum:=fun b c k => by rw [sumP,List.map_map];rfl
 rw [f,f,f,f,f,Int.zero_add,← List.sum_append,← List.sum_append,← List.sum_append,← List.sum_append,← List.map_append,← List.map_append,← List.map_append,← List.map_append]
 rfl
end
end
section
open PySem.StrLaws PySem.Builtin.Str
variable [bs : Base]
set_option maxRecDepth 10000 in
theorem par_fn (n : Nat) {cs : List (Nat × Nat)} (hc : ∀ p ∈ cs,W4 p) (hl : cs.length ≤ 5) : (evs TA (n + 26)).fn (Str.ofString "_law_partings") [.list (cs.map pairN)] = some (.ok (.int (partN cs))):=by
 refine fn_eq (F:=parF) (by kernel_rfl) (by rfl) ?_
 obtain ⟨d1,l1,e1⟩:=par_go hc hl n (b:=0) (c:=0) (by decide) [1] (by decide) (0 + addN cs 0 0 0) 0 (lineD 0 0 0)
 have t1 : 0 + addN cs 0 0 0 + ([1].map (addN cs 0 0)).sum = 0 + sumP cs 0 0 2:=Int.add_assoc ..
 rw [t1] at e1
 have s1 : (evs TA (n + 22)).ss parF.names none ⟨[(Str.ofString "pairs",.list (cs.map pairN)),(Str.ofString "total",.int 0),(Str.ofString "b",natD 0),(Str.ofString "c",natD 0)],none⟩ (svB parC) = some (.ok (.next,⟨rhoP cs (0 + sumP cs 0 0 2) 0 0 d1 l1,none⟩)) :=
  ss_forV (st:=parD) (rest:=[]) (ds:=[natD 0,natD 1]) ⟨_,rfl⟩ (by kernel_rfl) (by kernel_rfl) (by kernel_rfl) (forGo_nextV (par_turn hc hl n 0 (b:=0) (c:=0) (d:=0) (by decide) (ρ:=[(Str.ofString "pairs",.list (cs.map pairN)),(Str.ofString "total",.int 0),(Str.ofString "b",natD 0),(Str.ofString "c",natD 0),(Str.ofString "d",natD 0)]) (by kernel_rfl) (by kernel_rfl)) (by kernel_rfl) e1) (by kernel_rfl)
 obtain ⟨d2,l2,s2⟩:=par_c hc hl n (b:=0) (c:=1) (k:=3) (by decide) (by decide) (0 + sumP cs 0 0 2) d1 l1 (by kernel_rfl)
 obtain ⟨d3,l3,s3⟩:=par_c hc hl n (b:=1) (c:=0) (k:=3) (by decide) (by decide) (0 + sumP cs 0 0 2 + sumP cs 0 1 3) d2 l2 (by kernel_rfl)
 obtain ⟨d4,l4,s4⟩:=par_c hc hl n (b:=1) (c:=1) (k:=3) (by decide) (by decide) (0 + sumP cs 0 0 2 + sumP cs 0 1 3 + sumP cs 1 0 3) d3 l3 (by kernel_rfl)
 obtain ⟨d5,l5,s5⟩:=par_c hc hl n (b:=1) (c:=2) (k:=4) (by decide) (by decide) (0 + sumP cs 0 0 2 + sumP cs 0 1 3 + sumP cs 1 0 3 + sumP cs 1 1 3) d4 l4 (by kernel_rfl)
 change _ = (some (Except.ok (Out.next,(⟨rhoP cs (0 + sumP cs 0 0 2 + sumP cs 0 1 3) 0 1 d2 l2,none⟩ : St))) : Rs (Out × St)) at s2
 change _ = (some (Except.ok (Out.next,(⟨rhoP cs (0 + sumP cs 0 0 2 + sumP cs 0 1 3 + sumP cs 1 0 3) 1 0 d3 l3,none⟩ : St))) : Rs (Out × St)) at s3
 change _ = (some (Except.ok (Out.next,(⟨rhoP cs (0 + sumP cs 0 0 2 + sumP cs 0 1 3 + sumP cs 1 0 3 + sumP cs 1 1 3) 1 1 d4 l4,none⟩ : St))) : Rs (Out × St)) at s4
 change _ = (some (Except.ok (Out.next,(⟨rhoP cs (0 + sumP cs 0 0 2 + sumP cs 0 1 3 + sumP cs 1 0 3 + sumP cs 1 1 3 + sumP cs 1 2 4) 1 2 d5 l5,none⟩ : St))) : Rs (Out × St)) at s5
 rw [parts_sum cs] at s5
 have b0 : (evs TA (n + 23)).ss parF.names none ⟨[(Str.ofString "pairs",.list (cs.map pairN)),(Str.ofString "total",.int 0),(Str.ofString "b",natD 0)],none⟩ (svB parB) = some (.ok (.next,⟨rhoP cs (0 + sumP cs 0 0 2 + sumP cs 0 1 3) 0 1 d2 l2,none⟩)) :=
  ss_forV (st:=parC) (rest:=[]) (ds:=[natD 0,natD 1]) ⟨_,rfl⟩ (by kernel_rfl) (by kernel_rfl) (by kernel_rfl) (forGo_nextV s1 (by kernel_rfl) (forGo_nextV s2 (by kernel_rfl) forGo_nil)) (by kernel_rfl)
 have b1 : (evs TA (n + 23)).ss parF.names none ⟨rhoP cs (0 + sumP cs 0 0 2 + sumP cs 0 1 3) 1 1 d2 l2,none⟩ (svB parB) = some (.ok (.next,⟨rhoP cs (partN cs) 1 2 d5 l5,none⟩)) :=
  ss_forV (st:=parC) (rest:=[]) (ds:=[natD 0,natD 1,natD 2]) ⟨_,rfl⟩ (by kernel_rfl) (by kernel_rfl) (by kernel_rfl) (forGo_nextV s3 (by kernel_rfl) (forGo_nextV s4 (by kernel_rfl) (forGo_nextV s5 (by kernel_rfl) forGo_nil))) (by kernel_rfl)
 have key : ∃ σ,(evs TA (n + 25)).ss parF.names none ⟨[(Str.ofString "pairs",.list (cs.map pairN))],none⟩ parF.body = some (.ok (.ret (.int (partN cs)),σ)) :=
  ⟨_,ss_asgV (st:=nth parF.body 0) (rest:=[parB,nth parF.body 2]) (x:=Str.ofString "total") (d:=.int 0) ⟨_,_,rfl⟩ (by kernel_rfl) (by kernel_rfl) (ss_forV (n:=n + 23) (st:=parB) (ds:=[natD 0,natD 1]) ⟨_,rfl⟩ (by kernel_rfl) (by kernel_rfl) (by kernel_rfl) (forGo_nextV b0 (by kernel_rfl) (forGo_nextV b1 (by kernel_rfl) forGo_nil)) (ss_retV (n:=n + 22) (st:=nth parF.body 2) (ρ:=rhoP cs (partN cs) 1 2 d5 l5) ⟨_,rfl⟩ (by kernel_rfl)))⟩
 obtain ⟨σ,key⟩:=key
 exact congrArg (fun z => Rs.bind z _) key
end
section
open PySem.StrLaws PySem.Builtin.Str
variable [bs : Base]
noncomputable def th8 (k : Nat) : Str:=if k < 4 then nm k else Sc [k,k]
theorem th8_inj : ∀ a,a < 8 → ∀ b,b < 8 → th8 a = th8 b → a = b:=by decide +kernel
theorem th8_nm {k : Nat} (h : k < 4) : th8 k = nm k:=if_pos h
theorem nm_ok (k : Nat) : PyData.strOk (nm k) = true:=by
 match k with
 | 0 => decide +kernel
 | 1 => decide +kernel
 | 2 => decide +kernel
 | 3 => decide +kernel
 | _ + 4 => kernel_rfl
noncomputable def rowsW (wy : List (Nat × Nat)) : List (List Str):=wy.map fun p => [nm p.1,nm p.2]
noncomputable def lsW (wy : List (Nat × Nat)) : List (List Nat):=wy.map fun p => [p.1,p.2]
section
variable {wy : List (Nat × Nat)} (hw : ∀ p ∈ wy,W4 p)
include hw
theorem text_rows : textR th8 (lsW wy) = rowsW wy:=by
 rw [textR,lsW,List.map_map]
 exact List.map_congr_left fun p hp => by
  show [th8 p.1,th8 p.2] = _
  rw [th8_nm (hw p hp).1,th8_nm (hw p hp).2]
theorem way_sys : Sys th8 (lsW wy) (reachR wy) where
 inj:=fun a b ha hb => th8_inj a ha b hb
 lt:=fun l hl a ha => by
  obtain ⟨p,hp,rfl⟩:=lMp hl
  obtain ⟨h1,h2⟩:=hw p hp
  simp only [List.mem_cons,List.not_mem_nil,or_false] at ha
  rcases ha with rfl | rfl <;> omega
 rc:=by
  have e : (lsW wy).flatMap adj = wy:=by
   rw [lsW,List.flatMap_map]
   show wy.flatMap (fun p => [(p.1,p.2)]) = wy
   rw [List.flatMap_singleton']
  rw [e]
  exact reach_ok fun p hp => by obtain ⟨h1,h2⟩:=hw p hp;omega
theorem stands_iff {cs : List (Nat × Nat)} (hn : ∀ k,inP wy k = inP cs k) {x : Str} : Stands (rowsW wy) x ↔ x ∈ ([1,3,0,2].filter (inP cs)).map nm:=by
 have mem4 : ∀ k : Nat,k < 4 → k ∈ [1,3,0,2]:=by decide
 have inw : ∀ k,inP wy k = true ↔ ∃ p ∈ wy,p.1 = k ∨ p.2 = k:=fun k => by
  unfold inP
  rw [List.any_eq_true]
  simp only [Bool.or_eq_true,beq_iff_eq]
 constructor
 ·rintro ⟨r,hr,hx⟩
  obtain ⟨p,hp,rfl⟩:=lMp hr
  simp only [List.mem_cons,List.not_mem_nil,or_false] at hx
  rcases hx with rfl | rfl
  ·exact lMr ⟨p.1,fMr ⟨mem4 _ (hw p hp).1,(hn _).symm.trans ((inw _).mpr ⟨p,hp,.inl rfl⟩)⟩,rfl⟩
  ·exact lMr ⟨p.2,fMr ⟨mem4 _ (hw p hp).2,(hn _).symm.trans ((inw _).mpr ⟨p,hp,.inr rfl⟩)⟩,rfl⟩
 ·intro h
  obtain ⟨k,hk,rfl⟩:=lMp h
  obtain ⟨p,hp,q⟩:=(inw k).mp ((hn k).trans (fMp hk).2)
  refine ⟨[nm p.1,nm p.2],lMr ⟨p,hp,rfl⟩,?_⟩
  rcases q with rfl | rfl
  ·exact List.mem_cons_self
  ·exact List.mem_cons_of_mem _ List.mem_cons_self
theorem told_perm {cs : List (Nat × Nat)} (hn : ∀ k,inP wy k = inP cs k) {l : List Str} (T : Tells (rowsW wy) l) : l.Perm (([1,3,0,2].filter (inP cs)).map nm):=by
 refine (List.perm_ext_iff_of_nodup T.nodup ?_).mpr fun x => (T.mem x).trans (stands_iff hw hn)
 have h4 : ([nm 1,nm 3,nm 0,nm 2] : List Str).Nodup:=by decide +kernel
 exact h4.sublist ((List.filter_sublist (p:=inP cs) (l:=[1,3,0,2])).map nm)
end
theorem rows_shape {ws : List (List Str)} (h : ∀ r ∈ ws,∀ x ∈ r,PyData.strOk x = true) : Lay 2 (.list (ws.map rowT)):=lay_map fun r hr => lay_map fun x hx => lay_str (h r hr x hx)
theorem rowsW_ok (wy : List (Nat × Nat)) : ∀ r ∈ rowsW wy,∀ x ∈ r,PyData.strOk x = true:=fun r hr x hx => by
 obtain ⟨p,_,rfl⟩:=lMp hr
 simp only [List.mem_cons,List.not_mem_nil,or_false] at hx
 rcases hx with rfl | rfl <;> exact nm_ok _
theorem ss_skipV {T : Tab} {n : Nat} {sc : Names} {ow : Option Str} {ρ : Vars} {st : Stmt} {rest : List Stmt} {z : Rs (Out × St)} (hs : ∃ p,st = .If (svE st) (svB st) [] p) (h : (evs T (n + 1)).tr sc ρ (svE st) = some false) (hz : (evs T (n + 1)).ss sc ow ⟨ρ,none⟩ rest = z) : (evs T (n + 2)).ss sc ow ⟨ρ,none⟩ (st :: rest) = z:=by
 obtain ⟨p,e⟩:=hs
 generalize svE st = c at e h
 generalize svB st = a at e
 subst e
 exact (ss_skip h).trans hz
noncomputable def bopE (i : Nat) (e : Expr) : Expr:=if h : e.ctorIdx = 0 then Expr.BoolOp.elim (motive_1:=fun ζ => Expr) e h fun ζ es ζ => (es[i]?).getD e else e
theorem or3_tr {T : Tab} {n : Nat} {sc : Names} {ρ : Vars} {E : Expr} (hE : ∃ p,E = .BoolOp .Or [bopE 0 E,bopE 1 E,bopE 2 E] p) (h0 : (evs T n).tr sc ρ (bopE 0 E) = some false) (h1 : (evs T n).tr sc ρ (bopE 1 E) = some false) (h2 : (evs T n).tr sc ρ (bopE 2 E) = some false) : (evs T (n + 1)).tr sc ρ E = some false:=by
 obtain ⟨p,e⟩:=hE
 generalize bopE 0 E = a at e h0
 generalize bopE 1 E = b at e h1
 generalize bopE 2 E = c at e h2
 subst e
 rw [ev_tr,t_bool]
 unfold allGo
 rw [h0,Option.bind_some]
 unfold allGo
 rw [h1,Option.bind_some]
 unfold allGo
 rw [h2]
 rfl
theorem ite_ex {T : Tab} {n : Nat} {sc : Names} {ρ : Vars} {E c a b : Expr} {t : Bool} {d : PyData} (hE : ∃ p,E = .IfExp c a b p) (h : (evs T n).tr sc ρ c = some t) (hd : (evs T n).ex sc ρ (cond t a b) = some d) : (evs T (n + 1)).ex sc ρ E = some d:=by
 obtain ⟨p,rfl⟩:=hE
 rw [ev_ex,x_ite,h,Option.bind_some]
 cases t <;> exact hd
theorem m_index {l : List Str} {x : Str} (h : x ∈ l) (hl : l.length ≤ 100) : method (Str.ofString "index") (rowT l) [.str x] = some (.int (l.idxOf x : Nat)):=by
 refine (show _ = (strsOf (l.map PyData.str)).bind (fun ss => if x ∈ ss ∧ (l.map PyData.str).length ≤ lim then some (.int (ss.idxOf x : Nat)) else none) by kernel_rfl).trans ?_
 rw [strsOf_map,Option.bind_some,if_pos ⟨h,by rw [List.length_map];unfold lim;omega⟩]
noncomputable def tstE (e : Expr) : Expr:=if h : e.ctorIdx = 5 then Expr.IfExp.elim (motive_1:=fun ζ => Expr) e h fun c ζ ζ ζ => c else e
section
variable {wy cs : List (Nat × Nat)} (hw : ∀ p ∈ wy,W4 p) (hl : wy.length ≤ 1000) (hn : ∀ k,inP wy k = inP cs k)
include hw hl
noncomputable def rhoZ (wy : List (Nat × Nat)) (nd : PyData) (rest : List (List Str)) (l : List Str) : Vars:=(Str.ofString "rows",.list (rest.map rowT)) :: setV (rho0 (rowsW wy) nd) (Str.ofString "order") (rowT l)
set_option maxRecDepth 10000 in
theorem told_said {l : List Str} (T : Tells (rowsW wy) l) (hn : ∀ k,inP wy k = inP cs k) : ∃ σ,(evs TA 60).ss triedF.names none ⟨rhoZ wy (strsD (namedN cs)) ((rowsW wy).map fun ζ => []) l,none⟩ [nth triedF.body 2,nth triedF.body 3] = some (.ok (.ret (.str (Str.ofString "told")),σ)):=by
 have hp:=told_perm hw hn T
 have hll : l.length ≤ 4:=by rw [hp.length_eq,List.length_map];exact List.length_filter_le _ _
 have hrl : (rowsW wy).length ≤ 1000000:=by rw [rowsW,List.length_map];omega
 have h2 : (evs TA 59).tr triedF.names (rhoZ wy (strsD (namedN cs)) ((rowsW wy).map fun ζ => []) l) (svE (nth triedF.body 2)) = some false:=by
  refine or3_tr ⟨_,rfl⟩ (by kernel_rfl) ?_ ?_
  ·have h : (evs TA 57).ex triedF.names (rhoZ wy (strsD (namedN cs)) ((rowsW wy).map fun ζ => []) l) (rhsE (bopE 1 (svE (nth triedF.body 2)))) = some (.list ((rowsW wy).map fun ζ => .list [])) :=
    compA (n:=56) (xs:=rowsW wy) (Str.ofString "row") rowT (fun ζ => .list []) ⟨_,rfl⟩ (by kernel_rfl) (by kernel_rfl) (by kernel_rfl) hrl fun r ζ => by kernel_rfl
   refine (cmp_tr (n:=57) (d1:=.list (((rowsW wy).map fun ζ => []).map rowT)) ⟨_,rfl⟩ (by kernel_rfl) (by kernel_rfl) h).trans ?_
   rw [List.map_map]
   exact ne_self (lay_map (k:=1) fun r ζ => lay_list (k:=0) nofun) (by decide)
  ·refine (cmp_tr (n:=57) ⟨_,rfl⟩ (by kernel_rfl) ((show _ = builtin1 "sorted" (strsD l) by kernel_rfl).trans (sort_strs hp)) (show _ = some (strsD (namedN cs)) by kernel_rfl)).trans (ne_self (lay_map (k:=0) fun x hx => lay_str ?_) (by decide))
   obtain ⟨k,_,rfl⟩:=lMp hx
   exact nm_ok k
 have h3 : (evs TA 56).ex triedF.names (rhoZ wy (strsD (namedN cs)) ((rowsW wy).map fun ζ => []) l) (cvE (tstE (svE (nth triedF.body 3)))) = some (.list (((rowsW wy).filter fun ζ => false).map rowT)):=by
  refine compN (n:=55) (xs:=rowsW wy) (Str.ofString "row") rowT (fun ζ => false) rowT ⟨_,rfl⟩ (by kernel_rfl) (by kernel_rfl) hrl fun r hr => ⟨tests_one ?_,fun z => nomatch z⟩
  obtain ⟨p,hp',rfl⟩:=lMp hr
  have hi:=T.ord (nm p.1) (nm p.2) ⟨_,hr,.inl ⟨rfl,List.mem_cons_self⟩⟩
  refine (show _ = (method (Str.ofString "index") (rowT l) [.str (nm p.1)]).bind (fun a => (method (Str.ofString "index") (rowT l) [.str (nm p.2)]).bind fun b => cmpop .GtE a b) by kernel_rfl).trans ?_
  rw [m_index ((T.mem _).mpr ⟨_,hr,List.mem_cons_self⟩) (by omega),m_index ((T.mem _).mpr ⟨_,hr,List.mem_cons_of_mem _ List.mem_cons_self⟩) (by omega),Option.bind_some,Option.bind_some,co_ge,decide_eq_false (by omega)]
 have e0 : (rowsW wy).filter (fun ζ => false) = []:=List.filter_eq_nil_iff.mpr fun ζ ζ => Bool.false_ne_true
 rw [e0] at h3
 exact ⟨_,ss_skipV (n:=58) (st:=nth triedF.body 2) ⟨_,rfl⟩ h2 (ss_retV (n:=58) (st:=nth triedF.body 3) (rest:=[]) (d:=.str (Str.ofString "told")) ⟨_,rfl⟩ (ite_ex (n:=57) (c:=tstE (svE (nth triedF.body 3))) (t:=true) ⟨_,rfl⟩ ((cmp_tr (n:=56) (d2:=.list []) ⟨_,rfl⟩ (by kernel_rfl) h3 (by kernel_rfl)).trans (by kernel_rfl)) (by kernel_rfl)))⟩
end
end
section
open PySem.StrLaws PySem.Builtin.Str
variable [bs : Base]
theorem exq_comp {T : Tab} {n : Nat} {sc : Names} {ρ : Vars} {E elt : Expr} {g : Comprehension} {gs : List Comprehension} {scope : Scope} (hE : ∃ q,E = .ListComp elt (g :: gs) scope q) : (evq T (n + 1)).ex sc ρ E = compE (evq T n) sc ρ E:=by
 obtain ⟨q,rfl⟩:=hE
 rfl
section
variable {wy cs : List (Nat × Nat)} (hw : ∀ p ∈ wy,W4 p) (hl : wy.length ≤ 1000)
include hw hl
theorem way_told (hn : ∀ k,inP wy k = inP cs k) (ha : acyc wy = true) : TriedOk (rowsW wy) (strsD (namedN cs)) (Str.ofString "told"):=by
 obtain ⟨out,h1,_,h3⟩:=(way_sys hw).raw
 rw [text_rows hw] at h1 h3
 have hr : ringsN (reachR wy) = []:=List.isEmpty_iff.mp ha
 obtain ⟨l,rfl,T⟩:=h3 hr
 have e : heldT th8 (reachR wy) = []:=by
  have : ∀ k,heldN (reachR wy) k = false:=fun k => by unfold heldN;rw [hr];rfl
  unfold heldT
  rw [List.filter_eq_nil_iff.mpr fun k ζ => by rw [this k];exact Bool.false_ne_true]
  rfl
 have e2 : (rowsW wy).map (fun r => r.filter (heldT th8 (reachR wy)).contains) = (rowsW wy).map fun ζ => []:=List.map_congr_left fun r ζ => by
  rw [e];exact List.filter_eq_nil_iff.mpr fun ζ ζ => Bool.false_ne_true
 rw [e2] at h1
 exact ⟨some l,_,h1,fun l' q => by obtain rfl:=Option.some.inj q;exact told_said hw hl T hn,nofun⟩
set_option maxRecDepth 10000 in
theorem held_said (nd : PyData) {hs : Str → Bool} : (evq tab0 40).ex triedF.names (rho1 (rowsW wy) nd ((rowsW wy).map (·.filter hs))) heldE = some (strsD ((rowsW wy).map (·.filter hs)).flatten):=by
 have e : ∀ rs : List (List Str),((rs.filter fun ζ => true).flatMap fun x => (x.filter fun ζ => true).map PyData.str) = rs.flatten.map PyData.str:=fun rs => by
  rw [filter_true,List.map_flatten,← List.flatMap_def]
  exact congrArg (fun f => List.flatMap f rs) (funext fun x => by rw [filter_true])
 have hlen : ((rowsW wy).map (·.filter hs)).flatten.length ≤ 2 * wy.length:=by
  have : ∀ l : List (Nat × Nat),((rowsW l).map (·.filter hs)).flatten.length ≤ 2 * l.length:=fun l => by
   induction l with
   | nil => exact Nat.le_refl _
   | cons p l ih =>
    show (([nm p.1,nm p.2].filter hs) ++ ((rowsW l).map (·.filter hs)).flatten).length ≤ _
    rw [List.length_append,List.length_cons]
    have:=List.length_filter_le hs [nm p.1,nm p.2]
    simp only [List.length_cons,List.length_nil] at this
    omega
  exact this wy
 refine (exq_comp (n:=39) ⟨_,rfl⟩).trans ((compNNr (r:=evq tab0 39) (xs:=(rowsW wy).map (·.filter hs)) (Str.ofString "row") (Str.ofString "name") rowT (fun ζ => true) id PyData.str (fun ζ ζ => true) (fun ζ z => .str z) ⟨_,rfl⟩ (by kernel_rfl) ⟨by kernel_rfl,by kernel_rfl,by kernel_rfl,by rw [ne_eq,ofString_iff];decide⟩ (by kernel_rfl)
  (by rw [show (((rowsW wy).map (·.filter hs)).filter fun ζ => true).flatMap (fun x => ((id x).filter fun ζ => true).map PyData.str) = _ from e _,List.length_map];omega) fun x ζ => ⟨by kernel_rfl,fun ζ => ⟨by kernel_rfl,fun z ζ => ⟨by kernel_rfl,fun ζ => by kernel_rfl⟩⟩⟩).trans ?_)
 exact congrArg (fun l => some (PyData.list l)) (e _)
set_option maxRecDepth 10000 in
theorem whole_said (nd : PyData) {hs : Str → Bool} : (evq tab0 40).ex triedF.names (setV (rho1 (rowsW wy) nd ((rowsW wy).map (·.filter hs))) (Str.ofString "held") (strsD ((rowsW wy).map (·.filter hs)).flatten)) wholeE = some (.bool true):=by
 generalize hH : ((rowsW wy).map (·.filter hs)).flatten = H
 have ok : ∀ r ∈ (rowsW wy).map (·.filter hs),∀ x ∈ r,PyData.strOk x = true:=fun r hr x hx => by
  obtain ⟨r',hr',rfl⟩:=lMp hr
  exact rowsW_ok wy r' hr' x (fMp hx).1
 have okH : ∀ x ∈ H,PyData.strOk x = true:=fun x hx => by
  rw [← hH] at hx
  obtain ⟨r,hr,hx⟩:=List.mem_flatten.mp hx
  exact ok r hr x hx
 have eqf : ∀ r ∈ rowsW wy,r.filter H.contains = r.filter hs:=fun r hr => List.filter_congr fun x hx => by
  rw [Bool.eq_iff_iff,List.contains_iff_mem,← hH]
  constructor
  ·intro h
   obtain ⟨q,hq,hx'⟩:=List.mem_flatten.mp h
   obtain ⟨q',_,rfl⟩:=lMp hq
   exact (fMp hx').2
  ·exact fun h => List.mem_flatten.mpr ⟨_,lMr ⟨r,hr,rfl⟩,fMr ⟨hx,h⟩⟩
 have h2 : (evq tab0 39).ex triedF.names (setV (rho1 (rowsW wy) nd ((rowsW wy).map (·.filter hs))) (Str.ofString "held") (strsD H)) (rhsE wholeE) = some (.list (((rowsW wy).filter fun ζ => true).map fun r => rowT (r.filter H.contains))):=by
  refine (exq_comp (n:=38) ⟨_,rfl⟩).trans (compNr (r:=evq tab0 38) (xs:=rowsW wy) (Str.ofString "row") rowT (fun ζ => true) (fun r => rowT (r.filter H.contains)) ⟨_,rfl⟩ (by kernel_rfl) (by kernel_rfl) (by rw [rowsW,List.length_map];omega) fun r hr => ⟨by kernel_rfl,fun ζ => ?_⟩)
  refine (exq_comp (n:=37) ⟨_,rfl⟩).trans (compNr (r:=evq tab0 37) (xs:=r) (Str.ofString "name") PyData.str H.contains PyData.str ⟨_,rfl⟩ (by kernel_rfl) (by kernel_rfl) ?_ fun x hx => ⟨tests_one ((show _ = cmpop .In (.str x) (.list (H.map PyData.str)) by kernel_rfl).trans (in_strs (rowsW_ok wy r hr x hx) okH)),fun ζ => by kernel_rfl⟩)
  obtain ⟨p,_,rfl⟩:=lMp hr
  exact Nat.le_of_ble_eq_true rfl
 refine (show _ = ((evq tab0 39).ex triedF.names (setV (rho1 (rowsW wy) nd ((rowsW wy).map (·.filter hs))) (Str.ofString "held") (strsD H)) (rhsE wholeE)).bind (fun d => (cmpop .Eq (.list (((rowsW wy).map (·.filter hs)).map rowT)) d).bind fun c => some (.bool c)) by kernel_rfl).trans ?_
 rw [h2,filter_true,Option.bind_some,show (rowsW wy).map (fun r => rowT (r.filter H.contains)) = ((rowsW wy).map (·.filter hs)).map rowT by rw [List.map_map];exact List.map_congr_left fun r hr => congrArg rowT (eqf r hr),eq_self (rows_shape ok) (by decide)]
 rfl
theorem way_no (nd : PyData) (ha : acyc wy = false) : TriedOk (rowsW wy) nd (Str.ofString "refused"):=by
 obtain ⟨out,h1,h2,_⟩:=(way_sys hw).raw
 rw [text_rows hw] at h1
 cases h2 fun e => by unfold acyc at ha;rw [e] at ha;cases ha
 exact ⟨none,_,h1,nofun,fun ζ => ⟨rfl,_,held_said hw hl nd,whole_said hw hl nd⟩⟩
end
end
section
open PySem.StrLaws PySem.Builtin.Str
variable [bs : Base]
structure Like (cs w : List (Nat × Nat)) : Prop where
 len : w.length = cs.length
 inP : ∀ k,inP w k = inP cs k
 ok : ∀ p ∈ w,W4 p
theorem like_step {pre w : List (Nat × Nat)} {p q : Nat × Nat} (h : Like pre w) (hp : W4 p) (hq : q = p ∨ q = p.swap) : Like (pre ++ [p]) (w ++ [q]) where
 len:=by rw [List.length_append,List.length_append,h.len];rfl
 inP:=fun k => by
  have e:=h.inP k
  unfold Mine.inP at *
  rw [List.any_append,List.any_append,e]
  rcases hq with rfl | rfl
  ·rfl
  ·simp only [List.any_cons,List.any_nil,Prod.fst_swap,Prod.snd_swap,Bool.or_false]
   rw [Bool.or_comm (p.2 == k)]
 ok:=fun r hr => (List.mem_append.mp hr).elim (h.ok r) fun hr => by
  rw [sMp hr]
  rcases hq with rfl | rfl
  ·exact hp
  ·exact ⟨hp.2,hp.1⟩
theorem like_go : ∀ (ps : List (Nat × Nat)),(∀ p ∈ ps,W4 p) → ∀ (pre : List (Nat × Nat)) (made : List (List (Nat × Nat))),(∀ w ∈ made,Like pre w) → ∀ w ∈ ps.foldl (fun made p => made.flatMap fun w => [w ++ [p],w ++ [p.swap]]) made,Like (pre ++ ps) w
 | [],_,pre,made,h => by rw [List.append_nil];exact h
 | p :: ps,hp,pre,made,h => by
  have:=like_go ps (fun q hq => hp q (List.mem_cons_of_mem _ hq)) (pre ++ [p]) (made.flatMap fun w => [w ++ [p],w ++ [p.swap]]) fun w hw => by
   obtain ⟨u,hu,hw⟩:=List.mem_flatMap.mp hw
   simp only [List.mem_cons,List.not_mem_nil,or_false] at hw
   exact hw.elim (fun e => e ▸ like_step (h u hu) (hp p List.mem_cons_self) (.inl rfl)) fun e => e ▸ like_step (h u hu) (hp p List.mem_cons_self) (.inr rfl)
  rwa [List.append_assoc] at this
theorem ways_like {cs : List (Nat × Nat)} (hc : ∀ p ∈ cs,W4 p) : ∀ w ∈ waysN cs,Like cs w:=by
 have:=like_go cs.tail (fun p hp => hc p (List.mem_of_mem_tail hp)) (cs.take 1) [cs.take 1] fun w hw => by
  rw [sMp hw]
  exact ⟨rfl,fun ζ => rfl,fun p hp => hc p (List.mem_of_mem_take hp)⟩
 have e : cs.take 1 ++ cs.tail = cs:=by cases cs <;> rfl
 rwa [e] at this
noncomputable def verd (w : List (Nat × Nat)) : Str:=cond (acyc w) (Str.ofString "told") (Str.ofString "refused")
theorem way_said {cs w : List (Nat × Nat)} (L : Like cs w) (hl : cs.length ≤ 5) : TriedOk (rowsW w) (strsD (namedN cs)) (verd w):=by
 have h : w.length ≤ 1000:=by rw [L.len];omega
 unfold verd
 cases ha : acyc w with
 | true => exact way_told L.ok h L.inP ha
 | false => exact way_no L.ok h _ ha
noncomputable def decP (d : PyData) : Nat × Nat:=match d with
 | .list [.str x,.str y] => ((List.range 4).findIdx fun k => nm k == x,(List.range 4).findIdx fun k => nm k == y)
 | _ => (0,0)
theorem dec_ok : ok4 (fun a => ok4 fun b => decP (rowP (a,b)) == (a,b)) = true:=by kernel_rfl
theorem dec_row {p : Nat × Nat} (h : W4 p) : decP (rowP p) = p:=beq_iff_eq.mp (ok4_at (ok4_at dec_ok h.1) h.2)
noncomputable def decW : List PyData → List (Nat × Nat)
 | .list rows :: _ => rows.map decP
 | _ => []
theorem dec_way {w : List (Nat × Nat)} (h : ∀ p ∈ w,W4 p) (d : PyData) : decW [wayP w,d] = w:=by
 show (w.map rowP).map decP = w
 rw [List.map_map]
 conv => rhs;rw [← List.map_id w]
 exact List.map_congr_left fun p hp => dec_row (h p hp)
open Classical in
noncomputable def triedFn (cs : List (Nat × Nat)) (f : Str) (ds : List PyData) : Rs PyData:=if f = Str.ofString "_law_tried" ∧ ∃ w,Like cs w ∧ ds = [wayP w,strsD (namedN cs)] then some (.ok (.str (verd (decW ds)))) else none
theorem triedFn_at {cs w : List (Nat × Nat)} (L : Like cs w) : triedFn cs (Str.ofString "_law_tried") [wayP w,strsD (namedN cs)] = some (.ok (.str (verd w))):=by
 unfold triedFn
 rw [if_pos ⟨rfl,w,L,rfl⟩,dec_way L.ok]
theorem way_rows (w : List (Nat × Nat)) : wayP w = .list ((rowsW w).map rowT):=by
 rw [rowsW,List.map_map];rfl
section
variable {prog : Program} {w : World} {hb : Heap} {mg mb : Str → Option Value}
set_option tactic.hygienic true in
theorem triedFn_ok (G : GroundA prog w hb mg mb) {cs : List (Nat × Nat)} (hl : cs.length ≤ 5) : FnOk prog w hb mg mg 100 (triedFn cs):=by
 intro f ds r h
 unfold triedFn at h
 split at h
 case isFalse => cases h
 rename_i hx
 obtain ⟨rfl,wy,L,rfl⟩:=hx
 rw [dec_way L.ok] at h
 obtain rfl:=Option.some.inj h
 obtain ⟨a,o,fd,ha,ho,hc,hd,_⟩:=G.FT.there
 refine ⟨a,ha,⟨o,fd,ho,hc,hd⟩,fun A s O vs Q E rm kb old on rs K hQ ζ => ?_⟩
 obtain ⟨vw,vs,rfl,r1,rs⟩:=rs.is
 obtain ⟨vn,vs,rfl,r2,rs⟩:=rs.is
 cases (show vs = [] from rs.is)
 have hlen : (rowsW wy).length ≤ 5:=by rw [rowsW,List.length_map,L.len];exact hl
 have two : ∀ r ∈ rowsW wy,r.length = 2:=fun r hr => by obtain ⟨p,_,rfl⟩:=lMp hr;rfl
 have hs : ∀ l : List (Nat × Nat),((rowsW l).map List.length).sum = 2 * l.length:=fun l => by
  induction l with
  | nil => rfl
  | cons p l ih => show 2 + ((rowsW l).map List.length).sum = _;rw [ih,List.length_cons];omega
 obtain ⟨a',ha',_,w'⟩:=tried_rule (E:=E) G (rm.le (by decide)) kb K old on (Nat.le_trans hlen (by decide)) (fun r hr => by rw [two r hr];decide) (fun r hr => ⟨by rw [two r hr];decide,rowsW_ok wy r hr⟩) (by rw [hs,L.len];omega) (way_said L hl) (way_rows wy ▸ r1) r2 fun v s' p => hQ _ rfl v s' p
 cases ha.symm.trans ha'
 exact w'
end
end
section
open PySem.StrLaws PySem.Builtin.Str
variable [bs : Base]
noncomputable def evT0 (cs : List (Nat × Nat)) : Evs:=⟨false,(evs TA 100).ex,(evs TA 100).tr,fun ζ ζ ζ ζ => none,triedFn cs⟩
noncomputable def evT (cs : List (Nat × Nat)) : Evs:=⟨false,exE TA (evT0 cs),trE (evT0 cs),fun ζ ζ ζ ζ => none,fun ζ ζ => none⟩
section
variable {prog : Program} {w : World} {hb : Heap} {mg mb : Str → Option Value}
theorem bd_step {n : Nat} {r : Evs} (G : GroundA prog w hb mg mb) (hs : r.still = false) (Sx : ExOk prog w hb false n r.ex) (St' : TrOk prog w hb false n r.tr) (Sf : FnOk prog w hb mg mg n r.fn) : Bd prog w TA hb mg mb mg (n + 1) (step TA r) :=
 ⟨rfl,(G.AO 0).bd.G,exE_ok hs (G.AO 0).bd.G Sx St' Sf,trE_ok Sx St',useE_ok hs (G.AO 0).bd.G Sx St',freshE_ok hs (G.AO 0).bd.G Sx St',fun ζ ζ ζ ζ ζ ζ => rfl⟩
theorem bd_tried (G : GroundA prog w hb mg mb) {cs : List (Nat × Nat)} (hl : cs.length ≤ 5) : Bd prog w TA hb mg mb mg 102 (step TA (evT cs)):=by
 have b:=bd_step (r:=evT0 cs) G rfl (G.AO 100).bd.ex (G.AO 100).bd.tr (triedFn_ok G hl)
 exact bd_step (r:=evT cs) G rfl b.ex b.tr fun ζ ζ ζ h => nomatch h
end
section
variable (m : Nat → Int) (w : Nat → Nat × Nat) (b : Nat → Bool)
noncomputable def rho19 : Vars:=rho18 m w b (waysP (waysN (csN m w))) ++ [(Str.ofString "named",strsD (namedN (csN m w)))]
variable (hw : ∀ k,W4 (w k))
include hw
theorem cs_W4 : ∀ p ∈ csN m w,W4 p:=fun p hp => ws_W4 w hw (fMp hp).1
theorem ways_len : (waysN (csN m w)).length ≤ 1000:=by
 have h:=(waysAt_ok (csN m w) (csN m w).tail.length (cs_len m w)).1
 rwa [waysAt_all] at h
noncomputable def verdL : List Str:=(waysN (csN m w)).map verd
set_option maxRecDepth 10000 in
theorem verd_eq : (step TA (evT (csN m w))).ex lawF.names (rho19 m w b) (svE (LB 20)) = some (strsD (verdL m w)):=by
 have h : compE (evT (csN m w)) lawF.names (rho19 m w b) (svE (LB 20)) = some (.list (((waysN (csN m w)).filter fun ζ => true).map fun y => .str (verd y))) :=
  compNr (r:=evT (csN m w)) (xs:=waysN (csN m w)) (Str.ofString "way") wayP (fun ζ => true) (fun y => .str (verd y)) ⟨_,rfl⟩ (by kernel_rfl) (by kernel_rfl) (Nat.le_trans (ways_len m w hw) (by decide)) fun y hy => ⟨by kernel_rfl,fun ζ =>
   (show _ = okR (triedFn (csN m w) (Str.ofString "_law_tried") [wayP y,strsD (namedN (csN m w))]) by kernel_rfl).trans (congrArg okR (triedFn_at (ways_like (cs_W4 m w hw) y hy)))⟩
 refine (show _ = compE (evT (csN m w)) lawF.names (rho19 m w b) (svE (LB 20)) by kernel_rfl).trans (h.trans ?_)
 rw [filter_true,strsD,verdL,List.map_map]
 rfl
noncomputable def rho20 : Vars:=rho19 m w b ++ [(Str.ofString "verdicts",strsD (verdL m w))]
omit hw
theorem count_told : ∀ l : List (List (Nat × Nat)),PySem.Spec.countIn (sT "told") ((l.map verd).map PyData.str) = ((l.filter acyc).length : Int)
 | [] => rfl
 | y :: l => by
  rw [List.map_cons,List.map_cons,PySem.Spec.countIn,count_told l,List.filter_cons]
  unfold verd
  cases acyc y with
  | true =>
   rw [if_pos (by kernel_rfl),if_pos rfl,List.length_cons]
   omega
  | false =>
   rw [if_neg (by rw [show PySem.Spec.same (.str (cond false (Str.ofString "told") (Str.ofString "refused"))) (sT "told") = false by kernel_rfl];exact Bool.false_ne_true),if_neg Bool.false_ne_true]
   omega
theorem wN_ok : ∀ d,d < 13 → ((wN d).1 < 4 ∧ (wN d).2 < 4) ∧ eg (wN d) ∈ E7:=by decide
theorem cmp_ex {T : Tab} {n : Nat} {sc : Names} {ρ : Vars} {E x y : Expr} {op : CmpOp} {d1 d2 : PyData} {c : Bool} (hE : ∃ p,E = .Compare x [op] [y] p) (hs : isSet y = false) (h1 : (evs T n).ex sc ρ x = some d1) (h2 : (evs T n).ex sc ρ y = some d2) (h : cmpop op d1 d2 = some c) : (evs T (n + 1)).ex sc ρ E = some (.bool c):=by
 obtain ⟨p,rfl⟩:=hE
 rw [ev_ex,x_cmp,if_neg (by rw [hs];exact Bool.false_ne_true),h1,h2,Option.bind_some,Option.bind_some,h]
 rfl
theorem and2_ex {T : Tab} {n : Nat} {sc : Names} {ρ : Vars} {E : Expr} {d : PyData} (hE : ∃ p,E = .BoolOp .And [bopE 0 E,bopE 1 E] p) (h0 : (evs T n).ex sc ρ (bopE 0 E) = some (.bool true)) (h1 : (evs T n).ex sc ρ (bopE 1 E) = some d) : (evs T (n + 1)).ex sc ρ E = some d:=by
 obtain ⟨p,e⟩:=hE
 generalize bopE 0 E = x at e h0
 generalize bopE 1 E = y at e h1
 subst e
 rw [ev_ex,x_bool]
 unfold boolGo
 rw [h0]
 exact h1
include hw
set_option maxRecDepth 10000 in
theorem last_eq (h7 : ∀ k,eg (w k) ∈ E7) : (evs TA 100).ex lawF.names (rho20 m w b) (svE (LB 21)) = some (.bool true):=by
 have hc:=cs_W4 m w hw
 have hl:=cs_len m w
 have o7 : Ok7 (csN m w):=fun p hp => by
  obtain ⟨k,_,rfl⟩:=lMp (fMp hp).1
  exact h7 k
 have ok : ∀ x ∈ verdL m w,x = Str.ofString "told" ∨ x = Str.ofString "refused":=fun x hx => by
  obtain ⟨y,_,rfl⟩:=lMp hx
  unfold verd
  cases acyc y with
  | true => exact .inl rfl
  | false => exact .inr rfl
 have so : ∀ x ∈ verdL m w,PyData.strOk x = true:=fun x hx => by rcases ok x hx with rfl | rfl <;> decide +kernel
 have hk : (verdL m w).contains (Str.ofString "wrong") = false:=by
  rw [Bool.eq_false_iff]
  intro q
  rcases ok _ (List.contains_iff_mem.mp q) with e | e <;> rw [ofString_iff] at e <;> revert e <;> decide
 refine and2_ex (n:=99) ⟨_,rfl⟩ ((cmp_ex (n:=98) ⟨_,rfl⟩ (by kernel_rfl) (show _ = some (sT "wrong") by kernel_rfl) (show _ = some (strsD (verdL m w)) by kernel_rfl) (notin_strs (by decide +kernel) so)).trans (by rw [hk];rfl)) ?_
 have e1 : method (Str.ofString "count") (strsD (verdL m w)) [sT "told"] = some (.int ((toldN (csN m w) : Nat) : Int)):=by
  refine (show _ = (strsOf ((verdL m w).map PyData.str)).map (fun ss => PyData.int (PySem.Spec.countIn (sT "told") (ss.map PyData.str))) by kernel_rfl).trans ?_
  rw [strsOf_map,Option.map_some,verdL,count_told]
  rfl
 have e2 : ((truth (.list ((csN m w).map pairN))).bind fun t => if t = true then some (PyData.int 2) else some (.int 1)) = some (.int ((if csN m w = [] then 1 else 2 : Nat) : Int)):=by
  rw [tr_l (by rw [List.length_map];unfold lim;omega),Option.bind_some]
  cases csN m w <;> rfl
 refine cmp_ex (n:=98) (d1:=.int ((toldN (csN m w) : Nat) * (if csN m w = [] then 1 else 2 : Nat))) ⟨_,rfl⟩ (by kernel_rfl) ((show _ = ((method (Str.ofString "count") (strsD (verdL m w)) [sT "told"]).bind fun a => ((truth (.list ((csN m w).map pairN))).bind fun t => if t = true then some (PyData.int 2) else some (.int 1)).bind fun c => binop .Mult a c) by kernel_rfl).trans ?_) ((show _ = okR ((evs TA 97).fn (Str.ofString "_law_partings") [.list ((csN m w).map pairN)]) by kernel_rfl).trans (congrArg okR (par_fn 71 hc hl))) ?_
 ·rw [e1,e2,Option.bind_some,Option.bind_some,bo_mul (by split <;> decide)]
 ·rw [co_eqi]
  refine congrArg some (beq_iff_eq.mpr ?_)
  rw [← told_part o7,Int.natCast_mul]
end
end
section
variable [bs : Base]
section
variable {prog : Program} {w : World} {hb : Heap} {mg mb : Str → Option Value} {A : Around} {hF : Heap} {env : Env} {s : Shared} {O O' : Addr → Prop} {ρ ρ' : Vars} {V : Heap → Prop} {Q : Flow → Shared → Prop} {E : Value → Shared → Prop}
noncomputable def V1 (h : Heap) : Prop:=CodeHd h 178 176 ∧ h.get? 176 = some (tabObj #[])
noncomputable def V2 (h : Heap) : Prop:=∃ ps,h.get? 176 = some (tabObj ps)
theorem calm1 (n6 : ¬ Sl env 176) (n8 : ¬ Sl env 178) : Calm hF O env V1:=fun h h' v k =>
 ⟨let ⟨o,vs,f,tf,fl,tg,iF,tx,tt,e,c,r⟩:=v.1;⟨o,vs,f,tf,fl,tg,iF,tx,tt,k.same (fun z => n8 z.2) e (by rw [c];decide),c,r⟩,k.same (fun z => n6 z.2) v.2 (show Value.none ≠ Value.type "frame" by decide)⟩
theorem calm2 (n6 : ¬ Sl env 176) : Calm hF O env V2:=fun h h' ⟨ps,e⟩ k => ⟨ps,k.same (fun z => n6 z.2) e (show Value.none ≠ Value.type "frame" by decide)⟩
variable (G : GroundA prog w hb mg mb) (rm : Rm false hb 110 A) (cV : Calm hF O env V)
include G rm
theorem law_0 (cV : Calm hF O env V) {ns : List Int} {a : Addr} {us : List Value} (I : LI prog w hb hF O A env V s.heap []) (vi : VarIs s.heap env lawF.names (Str.ofString "script") (.ref a)) (hl : s.heap.IsList a us.toArray) (rs : RepAll prog w O s.heap us (ns.map PyData.int)) (hlen : ns.length ≤ 63)
  (hQ : ∀ h' tk,LI prog w hb hF O A env V h' [(Str.ofString "taken",.list ((ns.take 60).map PyData.int))] → Runs prog w A env Q E (lawF.body.drop 1) { s with heap:=h',toks:=tk }) : Runs prog w A env Q E (lawF.body.drop 0) s:=by
 obtain ⟨q,p,p1,p2,p3,k0,p4,e⟩ : ∃ q p p1 p2 p3 k0 p4,LB 0 = .Assign [.Name (Str.ofString "taken") q] (.Subscript (.Name (Str.ofString "script") p1) (.Slice none (some (.Constant (.int (60 : Nat)) k0 p4)) none p2) p3) p:=⟨_,_,_,_,_,_,_,rfl⟩
 refine LI.put cV ((law_bd (by decide)).trans (by rw [e])) ⟨rfl,rfl⟩ (by kernel_rfl) (d:=.list ((ns.take 60).map PyData.int)) rfl I (fun Q hQ => ?_) hQ
 refine slice_first (n:=98) (G.AO 100).bd.ex (rm.le (by decide)) I.F I.K vi hl rs (by rw [List.length_map];omega) fun v s' ps => hQ v s' ?_
 rw [List.map_take]
 exact ps
set_option maxRecDepth 10000 in
set_option tactic.hygienic true in
theorem law_1 (cV : Calm hF O env V) {ts : List Int} (hts : ts.length ≤ 60) (I : LI prog w hb hF O A env V s.heap [(Str.ofString "taken",.list (ts.map PyData.int))])
  (hQ : ∀ h' tk,LI prog w hb hF O A env V h' (rhoB (mN (nN ts)) (fun k => wN (dN (nN ts) k)) (bN (nN ts))) → Runs prog w A env Q E (lawF.body.drop 9) { s with heap:=h',toks:=tk }) : Runs prog w A env Q E (lawF.body.drop 1) s:=by
 have B:=(G.AO 100).bd
 have rm':=rm.le (show 100 ≤ 110 by decide)
 refine LI.asg B rm' cV (law_bd (k:=1) (by decide)) ⟨_,_,rfl⟩ (by kernel_rfl) (own_eq _) (show _ = rho2 ts by kernel_rfl) I fun h tk I => ?_
 refine LI.asg (s:={ s with heap:=h,toks:=tk }) B rm' cV (law_bd (k:=2) (by decide)) ⟨_,_,rfl⟩ (by kernel_rfl) (num_eq ts hts) (show _ = rho3 (nN ts) (.list (ts.map PyData.int)) by kernel_rfl) I fun h tk I => ?_
 generalize PyData.list (ts.map PyData.int) = t at I
 generalize nN ts = N at *
 refine LI.asg (s:={ s with heap:=h,toks:=tk }) B rm' cV (law_bd (k:=3) (by decide)) ⟨_,_,rfl⟩ (by kernel_rfl) (names_eq N t) (show _ = rho4 N t by kernel_rfl) I fun h tk I => ?_
 refine LI.asg (s:={ s with heap:=h,toks:=tk }) B rm' cV (law_bd (k:=4) (by decide)) ⟨_,_,rfl⟩ (by kernel_rfl) (modes_eq N t) (show _ = rho5 N t by kernel_rfl) I fun h tk I => ?_
 refine LI.asg (s:={ s with heap:=h,toks:=tk }) B rm' cV (law_bd (k:=5) (by decide)) ⟨_,_,rfl⟩ (by kernel_rfl) (drawn_eq N t) (show _ = rho6 N t by kernel_rfl) I fun h tk I => ?_
 refine LI.asg (s:={ s with heap:=h,toks:=tk }) B rm' cV (law_bd (k:=6) (by decide)) ⟨_,_,rfl⟩ (by kernel_rfl) (wishes_eq N t) (show _ = rho7 N t by kernel_rfl) I fun h tk I => ?_
 refine LI.asg (s:={ s with heap:=h,toks:=tk }) B rm' cV (law_bd (k:=7) (by decide)) ⟨_,_,rfl⟩ (by kernel_rfl) (odd_eq N t) (show _ = rho8 N t by kernel_rfl) I fun h tk I => ?_
 refine LI.asg (s:={ s with heap:=h,toks:=tk }) B rm' cV (law_bd (k:=8) (by decide)) ⟨_,_,rfl⟩ (by kernel_rfl) (spoiled_eq N t) rfl I fun h tk I => hQ h tk (I.less fun x d e => ?_)
 have key : ∀ y d,(rhoB (mN N) (fun k => wN (dN N k)) (bN N)).lookup y = some d → (setV (rho8 N t) (Str.ofString "spoiled") (spD (bN N))).lookup y = some d:=fun y d e => by
  simp only [rhoB,lookup_cons_eq,List.lookup_nil] at e
  split at e
  ·rename_i h;subst h;rw [← e];kernel_rfl
  split at e
  ·rename_i h;subst h;rw [← e];kernel_rfl
  split at e
  ·rename_i h;subst h;rw [← e];kernel_rfl
  split at e
  ·rename_i h;subst h;rw [← e];kernel_rfl
  ·cases e
 exact key x d e
end
end
section
variable [bs : Base]
section
variable {prog : Program} {w : World} {hb : Heap} {mg mb : Str → Option Value} {A : Around} {hF : Heap} {env : Env} {s : Shared} {O O' : Addr → Prop} {V : Heap → Prop} {Q : Flow → Shared → Prop} {E : Value → Shared → Prop}
variable {m : Nat → Int} {ws : Nat → Nat × Nat} {b : Nat → Bool}
theorem dk_strs {α : Type} (f : α → Str) (l : List α) : dk 4 (.list (l.map fun k => .str (f k))) = true:=List.all_eq_true.mpr fun d hd => by
 obtain ⟨k,_,rfl⟩:=lMp hd
 rfl
variable (G : GroundA prog w hb mg mb) (rm : Rm false hb 110 A)
include G rm
set_option maxRecDepth 10000 in
theorem law_2 (cV : Calm hF O env V) (hm : ∀ k,(m k).natAbs < 10 ^ 10) (hw : ∀ k,W4 (ws k)) (I : LI prog w hb hF O A env V s.heap (rhoB m ws b))
  (hQ : ∀ h' tk,LI prog w hb hF O A env V h' (rho11 m ws b) → Runs prog w A env Q E (lawF.body.drop 13) { s with heap:=h',toks:=tk }) : Runs prog w A env Q E (lawF.body.drop 9) s:=by
 have B:=(G.AO 100).bd
 have rm':=rm.le (show 100 ≤ 110 by decide)
 obtain ⟨q,p,p1,p2,p3,p4,p5,p6,p7,k,e⟩ : ∃ q p p1 p2 p3 p4 p5 p6 p7 k,LB 9 = .Assign [.Name (Str.ofString "told") q] (.Call (.Name (Str.ofString "reduce") p1) [.Name (Str.ofString "_law_heard") p2,argE 1 (svE (LB 9)),.Tuple [.Dict [] [] p4,.List [] p5,.List [] p6] k p7] [] p3) p:=⟨_,_,_,_,_,_,_,_,_,_,rfl⟩
 refine LI.put cV ((law_bd (k:=9) (by decide)).trans (congrArg (· :: lawF.body.drop 10) e)) ⟨rfl,rfl⟩ (by kernel_rfl) (d:=toldT (toldD m ws b)) (show _ = rho9 m ws b by kernel_rfl) I (fun Q hQ => told_call G rm' I.F I.K (by kernel_rfl) (by kernel_rfl) rfl (talk_eq hm hw b) (talk_ok hm hw b) hQ) fun h tk I => ?_
 refine LI.asg (s:={ s with heap:=h,toks:=tk }) B rm' cV (law_bd (k:=10) (by decide)) ⟨_,_,rfl⟩ (by kernel_rfl) (book_eq m ws b) (show _ = rho10 m ws b by kernel_rfl) I fun h tk I => ?_
 refine LI.asg (s:={ s with heap:=h,toks:=tk }) B rm' cV (law_bd (k:=11) (by decide)) ⟨_,_,rfl⟩ (by kernel_rfl) (refused_eq m ws b) (show _ = rho11 m ws b by kernel_rfl) I fun h tk I => ?_
 refine LI.skip (s:={ s with heap:=h,toks:=tk }) cV (law_bd (k:=12) (by decide)) ⟨_,rfl⟩ I (fun Q hQ => ?_) hQ
 obtain ⟨q,p,e⟩ : ∃ q p,svE (LB 12) = .Compare (.Name (Str.ofString "told") q) [.NotEq] [anewE] p:=⟨_,_,rfl⟩
 rw [e]
 refine wpAny_isTrue_Compare1 (I.F.F.name (s:={ s with heap:=h,toks:=tk }) (d:=toldT (toldD m ws b)) (by kernel_rfl) (.inr (.inl (by kernel_rfl))) fun v r => B.ex _ _ _ _ (anew_eq m b hw) A { s with heap:=h,toks:=tk } env hF O _ _ rm' I.F I.K fun v2 s2 ps => ?_) (by kernel_rfl)
 obtain ⟨h₂,tk₂,rfl,k2,r2⟩:=ps
 refine told_ne (s:={ s with heap:=h₂,toks:=tk₂ }) (kvs:=bookD m 4) (xs:=hearD ws) (ys:=noD b 4) ?_ (dk_strs (fun k => wS (ws k)) _) ?_ (by have:=rm.units;omega) (r.keep k2) r2 (wpAny_truthy_bool (hQ _ ⟨h₂,tk₂,rfl,k2⟩))
 ·kernel_rfl
 ·refine List.all_eq_true.mpr fun d hd => ?_
  rcases cMp hd with rfl | hd
  ·rfl
  ·obtain ⟨x,_,rfl⟩:=lMp hd;rfl
set_option maxRecDepth 10000 in
theorem law_3 (cV : Calm hF O env V) (hw : ∀ k,W4 (ws k)) (I : LI prog w hb hF O A env V s.heap (rho11 m ws b))
  (hQ : ∀ h' tk,LI prog w hb hF O A env V h' (rho16 m ws b) → Runs prog w A env Q E (lawF.body.drop 17) { s with heap:=h',toks:=tk }) : Runs prog w A env Q E (lawF.body.drop 13) s:=by
 have B:=(G.AO 100).bd
 have rm':=rm.le (show 100 ≤ 110 by decide)
 refine LI.asg B rm' cV (law_bd (k:=13) (by decide)) ⟨_,_,rfl⟩ (by kernel_rfl) (signs_eq m ws b) (show _ = rho13 m ws b by kernel_rfl) I fun h tk I => ?_
 refine LI.skip (s:={ s with heap:=h,toks:=tk }) cV (law_bd (k:=14) (by decide)) ⟨_,rfl⟩ I (fun Q hQ => B.tr _ _ _ _ (listing_same m ws b) A _ env hF O _ _ rm' I.F I.K hQ) fun h tk I => ?_
 refine LI.asg (s:={ s with heap:=h,toks:=tk }) B rm' cV (law_bd (k:=15) (by decide)) ⟨_,_,rfl⟩ (by kernel_rfl) (heard_eq m ws b hw) (show _ = rho15 m ws b by kernel_rfl) I fun h tk I => ?_
 exact LI.asg (s:={ s with heap:=h,toks:=tk }) B rm' cV (law_bd (k:=16) (by decide)) ⟨_,_,rfl⟩ (by kernel_rfl) (counted_eq m ws b hw) (show _ = rho16 m ws b by kernel_rfl) I hQ
set_option maxRecDepth 10000 in
theorem law_4 (n6 : ¬ Sl env 176) (hn : hF.get? 176 = none) (hcode : env.code = .ref 178) (I : LI prog w hb hF O A env V1 s.heap (rho16 m ws b))
  (hQ : ∀ h' tk,LI prog w hb hF O A env V2 h' (rho17 m ws b (waysP (waysN (csN m ws)))) → Runs prog w A env Q E (lawF.body.drop 18) { s with heap:=h',toks:=tk }) : Runs prog w A env Q E (lawF.body.drop 17) s:=by
 obtain ⟨q,p,p1,p2,p3,e⟩ : ∃ q p p1 p2 p3,LB 17 = .Assign [.Name (Str.ofString "ways") q] (.Call (.Name (Str.ofString "reduce") p1) [.Lambda lamV.1 lamV.2.1 lamV.2.2 p2,argE 1 (svE (LB 17)),argE 2 (svE (LB 17))] [] p3) p:=⟨_,_,_,_,_,rfl⟩
 rw [law_bd (by decide),e]
 refine ⟨execs_cons (wpAny_Assign_Name (ways_call G (rm.le (by decide)) I.F I.K (by kernel_rfl) hcode I.V.1 I.V.2 hn n6 (by kernel_rfl) rfl rfl (cs_len m ws) (cut_eq m ws b) (top_eq m ws b) fun v h₁ tk₁ ps rv k tb => ?_) (by rfl))⟩
 have I₁ : LI prog w hb hF O A env V2 h₁ (rho16 m ws b):=⟨I.F.offTab I.V.2 k hn n6 ⟨_,tb⟩,I.K.offTab I.V.2 k,ps,tb⟩
 exact I₁.F.store (s:={ s with heap:=h₁,toks:=tk₁ }) (show isOwn (lawF.names.lookup (Str.ofString "ways")) = true by kernel_rfl) rv fun h' tk F₂ k₂ kp ζ => (hQ h' tk ((show setV (rho16 m ws b) (Str.ofString "ways") (waysP (waysN (csN m ws))) = rho17 m ws b (waysP (waysN (csN m ws))) by kernel_rfl) ▸ I₁.stored (calm2 n6) F₂.F k₂ kp)).go
set_option maxRecDepth 10000 in
theorem law_5 (cV : Calm hF O env V) (hw : ∀ k,W4 (ws k)) (h7 : ∀ k,eg (ws k) ∈ E7) (I : LI prog w hb hF O A env V s.heap (rho17 m ws b (waysP (waysN (csN m ws)))))
  (hQ : ∀ h' tk,Keep hF h' → V h' → Q (.ret (.bool true)) { s with heap:=h',toks:=tk }) : Runs prog w A env Q E (lawF.body.drop 18) s:=by
 have B:=(G.AO 100).bd
 have rm':=rm.le (show 100 ≤ 110 by decide)
 refine LI.asg B rm' cV (law_bd (k:=18) (by decide)) ⟨_,_,rfl⟩ (by kernel_rfl) (pairs_eq m ws b hw _) (show _ = rho18 m ws b (waysP (waysN (csN m ws))) by kernel_rfl) I fun h tk I => ?_
 refine LI.asg (s:={ s with heap:=h,toks:=tk }) B rm' cV (law_bd (k:=19) (by decide)) ⟨_,_,rfl⟩ (by kernel_rfl) (named_eq m ws b _) (show _ = rho19 m ws b by kernel_rfl) I fun h tk I => ?_
 refine LI.asg (s:={ s with heap:=h,toks:=tk }) (bd_tried G (cs_len m ws)) (rm.le (by decide)) cV (law_bd (k:=20) (by decide)) ⟨_,_,rfl⟩ (by kernel_rfl) (verd_eq m ws b hw) (show _ = rho20 m ws b by kernel_rfl) I fun h tk I => ?_
 refine LI.ret (s:={ s with heap:=h,toks:=tk }) G rm' (law_bd (k:=21) (by decide)) ⟨_,rfl⟩ (last_eq m ws b hw h7) cV I fun v h' tk' k vV rv => ?_
 rw [show v = .bool true from rv.is]
 exact hQ h' tk' k vV
end
end
section
theorem mN_small (N : Nat → Nat) (k : Nat) : (mN N k).natAbs < 10 ^ 10:=by
 have:=Nat.mod_lt (N k) (show 131072 > 0 by decide)
 unfold mN
 omega
set_option maxRecDepth 10000 in
theorem bodyB : BodyB:=by
 intro prog w _ hb mg mb A s G rm kb K hC hP hbn ns hlen a us hl rs Q E hQ
 have hpar : lawF.params = [Str.ofString "script"]:=rfl
 obtain ⟨ol,fdl,hla,hol,hdl,hcl⟩:=G.law
 have hCo:=hC
 obtain ⟨o8,_,_,_,_,_,_,_,_,ho8,_⟩:=hCo
 obtain ⟨la,hla',_,call⟩:=fn_ruleC (prog:=prog) (w:=w) (F:=lawF) (R:=fun r s' => match r with | .ok (.ret v) => Q v s' | .ok _ => False | .error e => E e s') (O:=fun ζ => False) (ρ:=[]) (n:=110) G.FL (G.AO 0).bd.G.lim (rm.le (show 111 ≤ 200 by decide)) kb (fun ζ z => z.elim) (fun ζ z => z.elim) (vs:=[.ref a]) (by rw [hpar];rfl)
  (fun ζ ζ e => nomatch e) (fun env O₁ h₁ tk₁ ent ec => by
   have rm' : Rm false hb 110 (A.deeper env):=(rm.le (show 111 ≤ 200 by decide)).deeper env
   have vi:=ent.vars (Str.ofString "script") (.ref a) (by rw [hpar];exact List.mem_cons_self)
   have hl₁ : h₁.IsList a us.toArray:=by
    obtain ⟨o,ho,hc,hd⟩:=hl
    exact ⟨o,ent.keep.same ho (by rw [hc];exact nofun),hc,hd⟩
   have rs₁ : RepAll prog w O₁ h₁ us (ns.map PyData.int):=(rs.more (O':=O₁) fun b z => (ent.new b z).elim (fun z => z.elim) .inr).keep ent.keep
   have slN : ∀ b,Sl env b → s.heap.get? b = none:=fun b z => (ent.new b (slot_O ent.F z)).elim (fun z => z.elim) id
   have n6 : ¬ Sl env 176:=fun z => nomatch (slN _ z).symm.trans hP
   have n8 : ¬ Sl env 178:=fun z => nomatch (slN _ z).symm.trans ho8
   have hcode : env.code = .ref 178:=(ec _ ol fdl hla hol hdl).trans hcl
   have kbM : Keep hb (mask s.heap [176]):=fun b o e => by
    obtain ⟨o',e',al⟩:=kb b o e
    exact ⟨o',(mask_other fun q => by rw [sMp q,hbn] at e;cases e).trans e',al⟩
   have V₀ : V1 s.heap:=⟨hC,hP⟩
   have c1 : Calm s.heap (fun ζ => True) env V1:=calm1 n6 n8
   have I₀ : LI prog w hb (mask s.heap [176]) O₁ (A.deeper env) env V1 h₁ []:=⟨⟨FrI.older ent.F.F mask_keep,kbM,ent.F.onew⟩,ent.stk K,c1 _ _ V₀ ent.keep.but⟩
   obtain ⟨m,hm⟩ : ∃ m,m = mN (nN (ns.take 60)):=⟨_,rfl⟩
   have hd : ∀ k,dN (nN (ns.take 60)) k < 13:=fun k => Nat.mod_lt _ (by decide)
   show wpAny _ _ (execs lawF.body env) _ _ _
   rw [← List.drop_zero (l:=lawF.body)]
   refine Runs.go ?_
   refine law_0 (s:={ s with heap:=h₁,toks:=tk₁ }) G rm' (calm1 n6 n8) I₀ vi hl₁ rs₁ hlen fun h tk I => ?_
   refine law_1 (s:={ s with heap:=h,toks:=tk }) G rm' (calm1 n6 n8) (by rw [List.length_take];omega) I fun h tk I => ?_
   refine law_2 (s:={ s with heap:=h,toks:=tk }) G rm' (calm1 n6 n8) (mN_small _) (fun k => (wN_ok _ (hd k)).1) I fun h tk I => ?_
   refine law_3 (s:={ s with heap:=h,toks:=tk }) G rm' (calm1 n6 n8) (fun k => (wN_ok _ (hd k)).1) I fun h tk I => ?_
   refine law_4 (s:={ s with heap:=h,toks:=tk }) G rm' n6 (mask_in List.mem_cons_self) hcode I fun h tk I => ?_
   exact law_5 (s:={ s with heap:=h,toks:=tk }) G rm' (calm2 n6) (fun k => (wN_ok _ (hd k)).1) (fun k => (wN_ok _ (hd k)).2) I fun h' tk' k ⟨ps,tb⟩ => hQ h' tk' ps (kbM.trans k) tb)
 exact ⟨la,hla',wpAny_call call⟩
theorem law2 : Challenge.rw_oy0152_02.Holds:=law2_of bodyB
end
end Mine
theorem PySem.Challenge.cw_oy0152_02_holds : PySem.Challenge.rw_oy0152_02.Holds :=
 Mine.law2
