import PyProof.Rows.All
import Wide.All
import OpenK.AllK
import Wide.FinOn
import Lean
import PySem.Challenge.RW_to0035_01
set_option Elab.async false
set_option maxRecDepth 100000
set_option compiler.extract_closed false
namespace Mine
section
open PySem PySem.W PySem.Calls PyProof.Rows
set_option maxHeartbeats 0
theorem ltr {a m b : Nat} (h2 : m < b) (h1 : a < m) : a < b := Nat.lt_trans h1 h2
theorem ltl {a m b : Nat} (h1 : a < m) (h2 : m < b) : a < b := Nat.lt_trans h1 h2
theorem lel {a m b : Nat} (h1 : a ≤ m) (h2 : m < b) : a < b := Nat.lt_of_le_of_lt h1 h2
theorem lte {a x y : Nat} (h : x = y) (h1 : a < y) : a < x := h ▸ h1
theorem etl {a x y : Nat} (h : a = y) (h1 : y < x) : a < x := h ▸ h1
theorem ner {a x y : Nat} (h : y = x) (h2 : a ≠ y) : a ≠ x := h ▸ h2
theorem eqf {a b : Nat} (h : a = b) (h2 : a ≠ b) : False := h2 h
theorem cj0 { P Q : Prop} (h : P ∧ Q) : P := h.1
theorem cj1 {A0 P Q : Prop} (h : A0 ∧ P ∧ Q) : P := h.2.1
theorem cl1 {A0 P : Prop} (h : A0 ∧ P) : P := h.2
theorem cj2 {A0 A1 P Q : Prop} (h : A0 ∧ A1 ∧ P ∧ Q) : P := h.2.2.1
theorem cl2 {A0 A1 P : Prop} (h : A0 ∧ A1 ∧ P) : P := h.2.2
theorem cj3 {A0 A1 A2 P Q : Prop} (h : A0 ∧ A1 ∧ A2 ∧ P ∧ Q) : P := h.2.2.2.1
theorem cl3 {A0 A1 A2 P : Prop} (h : A0 ∧ A1 ∧ A2 ∧ P) : P := h.2.2.2
theorem cj4 {A0 A1 A2 A3 P Q : Prop} (h : A0 ∧ A1 ∧ A2 ∧ A3 ∧ P ∧ Q) : P := h.2.2.2.2.1
theorem cl4 {A0 A1 A2 A3 P : Prop} (h : A0 ∧ A1 ∧ A2 ∧ A3 ∧ P) : P := h.2.2.2.2
theorem cj5 {A0 A1 A2 A3 A4 P Q : Prop} (h : A0 ∧ A1 ∧ A2 ∧ A3 ∧ A4 ∧ P ∧ Q) : P := h.2.2.2.2.2.1
theorem cl5 {A0 A1 A2 A3 A4 P : Prop} (h : A0 ∧ A1 ∧ A2 ∧ A3 ∧ A4 ∧ P) : P := h.2.2.2.2.2
theorem cj6 {A0 A1 A2 A3 A4 A5 P Q : Prop} (h : A0 ∧ A1 ∧ A2 ∧ A3 ∧ A4 ∧ A5 ∧ P ∧ Q) : P := h.2.2.2.2.2.2.1
theorem cl6 {A0 A1 A2 A3 A4 A5 P : Prop} (h : A0 ∧ A1 ∧ A2 ∧ A3 ∧ A4 ∧ A5 ∧ P) : P := h.2.2.2.2.2.2
theorem cj7 {A0 A1 A2 A3 A4 A5 A6 P Q : Prop} (h : A0 ∧ A1 ∧ A2 ∧ A3 ∧ A4 ∧ A5 ∧ A6 ∧ P ∧ Q) : P := h.2.2.2.2.2.2.2.1
theorem cl7 {A0 A1 A2 A3 A4 A5 A6 P : Prop} (h : A0 ∧ A1 ∧ A2 ∧ A3 ∧ A4 ∧ A5 ∧ A6 ∧ P) : P := h.2.2.2.2.2.2.2
theorem cj8 {A0 A1 A2 A3 A4 A5 A6 A7 P Q : Prop} (h : A0 ∧ A1 ∧ A2 ∧ A3 ∧ A4 ∧ A5 ∧ A6 ∧ A7 ∧ P ∧ Q) : P := h.2.2.2.2.2.2.2.2.1
theorem cl8 {A0 A1 A2 A3 A4 A5 A6 A7 P : Prop} (h : A0 ∧ A1 ∧ A2 ∧ A3 ∧ A4 ∧ A5 ∧ A6 ∧ A7 ∧ P) : P := h.2.2.2.2.2.2.2.2
theorem cj9 {A0 A1 A2 A3 A4 A5 A6 A7 A8 P Q : Prop} (h : A0 ∧ A1 ∧ A2 ∧ A3 ∧ A4 ∧ A5 ∧ A6 ∧ A7 ∧ A8 ∧ P ∧ Q) : P := h.2.2.2.2.2.2.2.2.2.1
theorem cl9 {A0 A1 A2 A3 A4 A5 A6 A7 A8 P : Prop} (h : A0 ∧ A1 ∧ A2 ∧ A3 ∧ A4 ∧ A5 ∧ A6 ∧ A7 ∧ A8 ∧ P) : P := h.2.2.2.2.2.2.2.2.2
theorem cj10 {A0 A1 A2 A3 A4 A5 A6 A7 A8 A9 P Q : Prop} (h : A0 ∧ A1 ∧ A2 ∧ A3 ∧ A4 ∧ A5 ∧ A6 ∧ A7 ∧ A8 ∧ A9 ∧ P ∧ Q) : P := h.2.2.2.2.2.2.2.2.2.2.1
theorem cl10 {A0 A1 A2 A3 A4 A5 A6 A7 A8 A9 P : Prop} (h : A0 ∧ A1 ∧ A2 ∧ A3 ∧ A4 ∧ A5 ∧ A6 ∧ A7 ∧ A8 ∧ A9 ∧ P) : P := h.2.2.2.2.2.2.2.2.2.2
theorem mm0 {α : Type} {a : α} {l : List α} : a ∈ a :: l := .head _
theorem mm1 {α : Type} {a : α} {x0 : α} {l : List α} : a ∈ x0 :: a :: l := .tail _ (.head _)
theorem mm2 {α : Type} {a : α} {x0 x1 : α} {l : List α} : a ∈ x0 :: x1 :: a :: l := .tail _ (.tail _ (.head _))
theorem mm3 {α : Type} {a : α} {x0 x1 x2 : α} {l : List α} : a ∈ x0 :: x1 :: x2 :: a :: l := .tail _ (.tail _ (.tail _ (.head _)))
theorem mm4 {α : Type} {a x0 x1 x2 x3 : α} {l : List α} (h : a ∈ l) : a ∈ x0 :: x1 :: x2 :: x3 :: l := .tail _ (.tail _ (.tail _ (.tail _ h)))
theorem subn {α : Type} (l' : List α) : ∀ q ∈ ([] : List α),q ∈ l' := fun _ h => nomatch h
theorem subc {α : Type} {a : α} {l l' : List α} (h : a ∈ l') (r : ∀ q ∈ l,q ∈ l') : ∀ q ∈ a :: l,q ∈ l' := List.forall_mem_cons.mpr ⟨h,r⟩
theorem suba {α : Type} {k l l' : List α} (h : ∀ q ∈ k,q ∈ l') (r : ∀ q ∈ l,q ∈ l') : ∀ q ∈ k ++ l,q ∈ l' := List.forall_mem_append.mpr ⟨h,r⟩
theorem nen (x : Addr) : ∀ q ∈ ([] : List (Addr × Obj)),q.1 ≠ x := fun _ h => nomatch h
theorem nec {a x : Addr} {o : Obj} {l : List (Addr × Obj)} (h : @Ne Nat a x) (r : ∀ q ∈ l,q.1 ≠ x) : ∀ q ∈ (a,o) :: l,q.1 ≠ x := List.forall_mem_cons.mpr ⟨h,r⟩
theorem lts1 {a : Nat} : a < a + 1 := Nat.lt_succ_self _
theorem ltp1 {a b : Nat} (h : a < b) : a < b + 1 := Nat.lt_succ_of_lt (h)
theorem lts2 {a : Nat} : a < a + 1 + 1 := Nat.lt_succ_of_lt (Nat.lt_succ_self _)
theorem ltp2 {a b : Nat} (h : a < b) : a < b + 1 + 1 := Nat.lt_succ_of_lt (Nat.lt_succ_of_lt (h))
theorem lts3 {a : Nat} : a < a + 1 + 1 + 1 := Nat.lt_succ_of_lt (Nat.lt_succ_of_lt (Nat.lt_succ_self _))
theorem ltp3 {a b : Nat} (h : a < b) : a < b + 1 + 1 + 1 := Nat.lt_succ_of_lt (Nat.lt_succ_of_lt (Nat.lt_succ_of_lt (h)))
theorem lts4 {a : Nat} : a < a + 1 + 1 + 1 + 1 := Nat.lt_succ_of_lt (Nat.lt_succ_of_lt (Nat.lt_succ_of_lt (Nat.lt_succ_self _)))
theorem ltp4 {a b : Nat} (h : a < b) : a < b + 1 + 1 + 1 + 1 := Nat.lt_succ_of_lt (Nat.lt_succ_of_lt (Nat.lt_succ_of_lt (Nat.lt_succ_of_lt (h))))
theorem lts5 {a : Nat} : a < a + 1 + 1 + 1 + 1 + 1 := Nat.lt_succ_of_lt (Nat.lt_succ_of_lt (Nat.lt_succ_of_lt (Nat.lt_succ_of_lt (Nat.lt_succ_self _))))
theorem ltp5 {a b : Nat} (h : a < b) : a < b + 1 + 1 + 1 + 1 + 1 := Nat.lt_succ_of_lt (Nat.lt_succ_of_lt (Nat.lt_succ_of_lt (Nat.lt_succ_of_lt (Nat.lt_succ_of_lt (h)))))
theorem lts6 {a : Nat} : a < a + 1 + 1 + 1 + 1 + 1 + 1 := Nat.lt_succ_of_lt (Nat.lt_succ_of_lt (Nat.lt_succ_of_lt (Nat.lt_succ_of_lt (Nat.lt_succ_of_lt (Nat.lt_succ_self _)))))
theorem ltp6 {a b : Nat} (h : a < b) : a < b + 1 + 1 + 1 + 1 + 1 + 1 := Nat.lt_succ_of_lt (Nat.lt_succ_of_lt (Nat.lt_succ_of_lt (Nat.lt_succ_of_lt (Nat.lt_succ_of_lt (Nat.lt_succ_of_lt (h))))))
theorem lts7 {a : Nat} : a < a + 1 + 1 + 1 + 1 + 1 + 1 + 1 := Nat.lt_succ_of_lt (Nat.lt_succ_of_lt (Nat.lt_succ_of_lt (Nat.lt_succ_of_lt (Nat.lt_succ_of_lt (Nat.lt_succ_of_lt (Nat.lt_succ_self _))))))
theorem ltp7 {a b : Nat} (h : a < b) : a < b + 1 + 1 + 1 + 1 + 1 + 1 + 1 := Nat.lt_succ_of_lt (Nat.lt_succ_of_lt (Nat.lt_succ_of_lt (Nat.lt_succ_of_lt (Nat.lt_succ_of_lt (Nat.lt_succ_of_lt (Nat.lt_succ_of_lt (h)))))))
theorem lts8 {a : Nat} : a < a + 1 + 1 + 1 + 1 + 1 + 1 + 1 + 1 := Nat.lt_succ_of_lt (Nat.lt_succ_of_lt (Nat.lt_succ_of_lt (Nat.lt_succ_of_lt (Nat.lt_succ_of_lt (Nat.lt_succ_of_lt (Nat.lt_succ_of_lt (Nat.lt_succ_self _)))))))
theorem ltp8 {a b : Nat} (h : a < b) : a < b + 1 + 1 + 1 + 1 + 1 + 1 + 1 + 1 := Nat.lt_succ_of_lt (Nat.lt_succ_of_lt (Nat.lt_succ_of_lt (Nat.lt_succ_of_lt (Nat.lt_succ_of_lt (Nat.lt_succ_of_lt (Nat.lt_succ_of_lt (Nat.lt_succ_of_lt (h))))))))
theorem uu1 {u a c n : Nat} (h : u + c < n) (d : a ≤ c) : u + a < n := Nat.lt_of_le_of_lt (Nat.add_le_add_left d u) h
theorem uu2 {u a b c n : Nat} (h : u + c < n) (d : a + b ≤ c) : u + a + b < n := Nat.add_assoc u a b ▸ uu1 h d
theorem uu3 {u a b e c n : Nat} (h : u + c < n) (d : a + b + e ≤ c) : u + a + b + e < n := by rw [Nat.add_assoc,Nat.add_assoc,← Nat.add_assoc a]; exact uu1 h d
theorem leb {a m n : Nat} (h : a ≤ m) (d : m ≤ n) : a ≤ n := Nat.le_trans h d
theorem leb1 {a k m n : Nat} (h : a ≤ m) (d : m + k ≤ n) : a + k ≤ n := Nat.le_trans (Nat.add_le_add_right h k) d
theorem ltb {a m n : Nat} (h : a ≤ m) (d : m < n) : a < n := Nat.lt_of_le_of_lt h d
theorem ltb1 {a k m n : Nat} (h : a ≤ m) (d : m + k < n) : a + k < n := Nat.lt_of_le_of_lt (Nat.add_le_add_right h k) d
theorem newsc {h₀ h : Heap} {L a : Addr} {o : Obj} {l : List (Addr × Obj)} (e : h.get? a = some o) (n : @Ne Nat a L) (z : h₀.get? a = none) (r : PyProof.Rows.News h₀ L h l) : PyProof.Rows.News h₀ L h ((a,o) :: l) := fun p hp => by
  rcases List.mem_cons.mp hp with rfl | hp
  · exact ⟨e,n,z⟩
  · exact r p hp
noncomputable abbrev pw : Program := PySem.Challenge.pw_to0035_01
noncomputable def st (i : Nat) : Stmt := (pw.main.body[i]?).getD (.Pass default)
noncomputable def clsBody : Stmt → List Stmt
  | .ClassDef _ _ _ b _ _ _ _ _ _ _ => b
  | _ => []
noncomputable def cst (i : Nat) : Stmt := ((clsBody (st 1))[i]?).getD (.Pass default)
noncomputable def fdp : Stmt → Arguments × List Stmt × Scope
  | .FunctionDef _ a b _ _ _ s _ _ _ => (a,b,s)
  | _ => default
noncomputable def envT : Env := { scope := pw.main.scope,locals := mainNs,globals := mainNs,cells := [],code := .ref 13,frame := some 14 }
noncomputable abbrev pos0 : Pos := ⟨0,0,0,0⟩
noncomputable abbrev cdT : Code := .body (behindTheImports pw) envT
noncomputable abbrev BT0 : List Frame := [topFrame pos0]
inductive EqT {α : Type} : α → α → Type
  | refl (a : α) : EqT a a
noncomputable abbrev unw {α : Type} {x y : α} (_ : EqT x y) : α := x
noncomputable abbrev parInit : Arguments := unw (x := ⟨_,_,_,_,_,_,_⟩) (y := (fdp (cst 0)).1) (.refl _)
noncomputable abbrev bodInit : List Stmt := unw (x := [_,_,_,_]) (y := (fdp (cst 0)).2.1) (.refl _)
noncomputable abbrev scoInit : Scope := unw (x := ⟨_,_,_,_,_⟩) (y := (fdp (cst 0)).2.2) (.refl _)
noncomputable abbrev parRead : Arguments := unw (x := ⟨_,_,_,_,_,_,_⟩) (y := (fdp (cst 1)).1) (.refl _)
noncomputable abbrev bodRead : List Stmt := unw (x := [_,_,_]) (y := (fdp (cst 1)).2.1) (.refl _)
noncomputable abbrev scoRead : Scope := unw (x := ⟨_,_,_,_,_⟩) (y := (fdp (cst 1)).2.2) (.refl _)
noncomputable abbrev parGet : Arguments := unw (x := ⟨_,_,_,_,_,_,_⟩) (y := (fdp (cst 2)).1) (.refl _)
noncomputable abbrev bodGet : List Stmt := unw (x := [_,_,_,_,_]) (y := (fdp (cst 2)).2.1) (.refl _)
noncomputable abbrev scoGet : Scope := unw (x := ⟨_,_,_,_,_⟩) (y := (fdp (cst 2)).2.2) (.refl _)
noncomputable abbrev parPush : Arguments := unw (x := ⟨_,_,_,_,_,_,_⟩) (y := (fdp (cst 3)).1) (.refl _)
noncomputable abbrev bodPush : List Stmt := unw (x := [_]) (y := (fdp (cst 3)).2.1) (.refl _)
noncomputable abbrev scoPush : Scope := unw (x := ⟨_,_,_,_,_⟩) (y := (fdp (cst 3)).2.2) (.refl _)
noncomputable abbrev parLt : Arguments := unw (x := ⟨_,_,_,_,_,_,_⟩) (y := (fdp (st 3)).1) (.refl _)
noncomputable abbrev bodLt : List Stmt := unw (x := [_]) (y := (fdp (st 3)).2.1) (.refl _)
noncomputable abbrev scoLt : Scope := unw (x := ⟨_,_,_,_,_⟩) (y := (fdp (st 3)).2.2) (.refl _)
noncomputable abbrev parAdd : Arguments := unw (x := ⟨_,_,_,_,_,_,_⟩) (y := (fdp (st 4)).1) (.refl _)
noncomputable abbrev bodAdd : List Stmt := unw (x := [_]) (y := (fdp (st 4)).2.1) (.refl _)
noncomputable abbrev scoAdd : Scope := unw (x := ⟨_,_,_,_,_⟩) (y := (fdp (st 4)).2.2) (.refl _)
noncomputable abbrev parSub : Arguments := unw (x := ⟨_,_,_,_,_,_,_⟩) (y := (fdp (st 5)).1) (.refl _)
noncomputable abbrev bodSub : List Stmt := unw (x := [_]) (y := (fdp (st 5)).2.1) (.refl _)
noncomputable abbrev scoSub : Scope := unw (x := ⟨_,_,_,_,_⟩) (y := (fdp (st 5)).2.2) (.refl _)
noncomputable abbrev parInb : Arguments := unw (x := ⟨_,_,_,_,_,_,_⟩) (y := (fdp (st 8)).1) (.refl _)
noncomputable abbrev bodInb : List Stmt := unw (x := [_]) (y := (fdp (st 8)).2.1) (.refl _)
noncomputable abbrev scoInb : Scope := unw (x := ⟨_,_,_,_,_⟩) (y := (fdp (st 8)).2.2) (.refl _)
noncomputable abbrev parMap : Arguments := unw (x := ⟨_,_,_,_,_,_,_⟩) (y := (fdp (st 10)).1) (.refl _)
noncomputable abbrev bodMap : List Stmt := unw (x := [_,_,_]) (y := (fdp (st 10)).2.1) (.refl _)
noncomputable abbrev scoMap : Scope := unw (x := ⟨_,_,_,_,_⟩) (y := (fdp (st 10)).2.2) (.refl _)
noncomputable abbrev parLexer : Arguments := unw (x := ⟨_,_,_,_,_,_,_⟩) (y := (fdp (st 12)).1) (.refl _)
noncomputable abbrev bodLexer : List Stmt := unw (x := [_,_,_,_,_]) (y := (fdp (st 12)).2.1) (.refl _)
noncomputable abbrev scoLexer : Scope := unw (x := ⟨_,_,_,_,_⟩) (y := (fdp (st 12)).2.2) (.refl _)
noncomputable abbrev parHidden : Arguments := unw (x := ⟨_,_,_,_,_,_,_⟩) (y := (fdp (st 13)).1) (.refl _)
noncomputable abbrev bodHidden : List Stmt := unw (x := [_,_]) (y := (fdp (st 13)).2.1) (.refl _)
noncomputable abbrev scoHidden : Scope := unw (x := ⟨_,_,_,_,_⟩) (y := (fdp (st 13)).2.2) (.refl _)
noncomputable abbrev parBeside : Arguments := unw (x := ⟨_,_,_,_,_,_,_⟩) (y := (fdp (st 14)).1) (.refl _)
noncomputable abbrev bodBeside : List Stmt := unw (x := [_]) (y := (fdp (st 14)).2.1) (.refl _)
noncomputable abbrev scoBeside : Scope := unw (x := ⟨_,_,_,_,_⟩) (y := (fdp (st 14)).2.2) (.refl _)
noncomputable abbrev parPiece : Arguments := unw (x := ⟨_,_,_,_,_,_,_⟩) (y := (fdp (st 15)).1) (.refl _)
noncomputable abbrev bodPiece : List Stmt := unw (x := [_,_,_,_,_,_,_,_,_,_,_]) (y := (fdp (st 15)).2.1) (.refl _)
noncomputable abbrev scoPiece : Scope := unw (x := ⟨_,_,_,_,_⟩) (y := (fdp (st 15)).2.2) (.refl _)
noncomputable abbrev parText : Arguments := unw (x := ⟨_,_,_,_,_,_,_⟩) (y := (fdp (st 16)).1) (.refl _)
noncomputable abbrev bodText : List Stmt := unw (x := [_,_,_,_,_,_]) (y := (fdp (st 16)).2.1) (.refl _)
noncomputable abbrev scoText : Scope := unw (x := ⟨_,_,_,_,_⟩) (y := (fdp (st 16)).2.2) (.refl _)
noncomputable abbrev parPrep : Arguments := unw (x := ⟨_,_,_,_,_,_,_⟩) (y := (fdp (st 17)).1) (.refl _)
noncomputable abbrev bodPrep : List Stmt := unw (x := [_,_,_]) (y := (fdp (st 17)).2.1) (.refl _)
noncomputable abbrev scoPrep : Scope := unw (x := ⟨_,_,_,_,_⟩) (y := (fdp (st 17)).2.2) (.refl _)
noncomputable abbrev parLast : Arguments := unw (x := ⟨_,_,_,_,_,_,_⟩) (y := (fdp (st 18)).1) (.refl _)
noncomputable abbrev bodLast : List Stmt := unw (x := [_,_]) (y := (fdp (st 18)).2.1) (.refl _)
noncomputable abbrev scoLast : Scope := unw (x := ⟨_,_,_,_,_⟩) (y := (fdp (st 18)).2.2) (.refl _)
noncomputable abbrev parLaw : Arguments := unw (x := ⟨_,_,_,_,_,_,_⟩) (y := (fdp (st 19)).1) (.refl _)
noncomputable abbrev bodLaw : List Stmt := unw (x := [_,_,_,_,_,_,_,_,_,_,_,_,_,_,_,_,_,_,_]) (y := (fdp (st 19)).2.1) (.refl _)
noncomputable abbrev scoLaw : Scope := unw (x := ⟨_,_,_,_,_⟩) (y := (fdp (st 19)).2.2) (.refl _)
noncomputable section
noncomputable def o11 (P : Params) : Obj := ⟨(.type "tuple"),none,(.seq ⟨[]⟩ 0),⟨[]⟩⟩
noncomputable def o13 (P : Params) : Obj := ⟨(.type "code"),none,(.fields ⟨[(.str ⟨⟨[60,109,111,100,117,108,101,62]⟩⟩ 182),(.str ⟨⟨[60,109,111,100,117,108,101,62]⟩⟩ 183),(.str ⟨⟨[47,99,108,97,105,109,47,99,117,116,46,112,121]⟩⟩ 184),(.int (.ofNat 1) 0),(.int (.ofNat 0) 0),(.int (.ofNat 0) 0),(.int (.ofNat 0) 0),(.int (.ofNat 0) 0),(.ref 11),(.bool false),(.int (.ofNat 181) 0),(.ref 12),.none,.none,.none,.none,(.int (.ofNat 185) 0),(.int (.ofNat 1) 0),(.str ⟨⟨[47,99,108,97,105,109,47,99,117,116,46,112,121]⟩⟩ 186)]⟩),⟨[]⟩⟩
noncomputable def o14 (P : Params) : Obj := ⟨(.type "frame"),none,.plain,⟨[(some (.ref 13)),(some (.ref 3)),(some (.ref 3)),none,(some (.str ⟨⟨[95,95,109,97,105,110,95,95]⟩⟩ 164)),none,(some (.ref 0))]⟩⟩
noncomputable def o15 (P : Params) : Obj := ⟨(.type "tuple"),none,(.seq ⟨[]⟩ 0),⟨[]⟩⟩
noncomputable def o16 (P : Params) : Obj := ⟨(.type "builtin_function_or_method"),none,(.fields ⟨[(.builtin "type.__prepare__"),(.type "type")]⟩),⟨[]⟩⟩
noncomputable def o17 (P : Params) : Obj := ⟨(.type "dict"),none,(.dict ⟨[⟨PyData.keyHash P ⟨⟨[95,95,109,111,100,117,108,101,95,95]⟩⟩,(.str ⟨⟨[95,95,109,111,100,117,108,101,95,95]⟩⟩ 196),(.str ⟨⟨[99,112,121,51,49,51,46,110,101,116,114,99]⟩⟩ 187)⟩,⟨PyData.keyHash P ⟨⟨[95,95,113,117,97,108,110,97,109,101,95,95]⟩⟩,(.str ⟨⟨[95,95,113,117,97,108,110,97,109,101,95,95]⟩⟩ 198),(.str ⟨⟨[95,110,101,116,114,99,108,101,120]⟩⟩ 197)⟩,⟨PyData.keyHash P ⟨⟨[95,95,102,105,114,115,116,108,105,110,101,110,111,95,95]⟩⟩,(.str ⟨⟨[95,95,102,105,114,115,116,108,105,110,101,110,111,95,95]⟩⟩ 200),(.int (.ofNat 2) 199)⟩,⟨PyData.keyHash P ⟨⟨[95,95,105,110,105,116,95,95]⟩⟩,(.str ⟨⟨[95,95,105,110,105,116,95,95]⟩⟩ 208),(.ref 28)⟩,⟨PyData.keyHash P ⟨⟨[95,114,101,97,100,95,99,104,97,114]⟩⟩,(.str ⟨⟨[95,114,101,97,100,95,99,104,97,114]⟩⟩ 216),(.ref 35)⟩,⟨PyData.keyHash P ⟨⟨[103,101,116,95,116,111,107,101,110]⟩⟩,(.str ⟨⟨[103,101,116,95,116,111,107,101,110]⟩⟩ 226),(.ref 42)⟩,⟨PyData.keyHash P ⟨⟨[112,117,115,104,95,116,111,107,101,110]⟩⟩,(.str ⟨⟨[112,117,115,104,95,116,111,107,101,110]⟩⟩ 234),(.ref 49)⟩,⟨PyData.keyHash P ⟨⟨[95,95,115,116,97,116,105,99,95,97,116,116,114,105,98,117,116,101,115,95,95]⟩⟩,(.str ⟨⟨[95,95,115,116,97,116,105,99,95,97,116,116,114,105,98,117,116,101,115,95,95]⟩⟩ 239),(.ref 50)⟩]⟩ 8),⟨[]⟩⟩
noncomputable def o18 (P : Params) : Obj := ⟨(.type "tuple"),none,(.seq ⟨[]⟩ 0),⟨[]⟩⟩
noncomputable def o19 (P : Params) : Obj := ⟨.none,none,(.fields ⟨[(.int (.ofNat 4) 0),(.int (.ofNat 4) 0),(.ref 27),(.int (.ofNat 10) 0),(.int (.ofNat 4) 0),(.ref 34),(.int (.ofNat 16) 0),(.int (.ofNat 4) 0),(.ref 41),(.int (.ofNat 43) 0),(.int (.ofNat 4) 0),(.ref 48)]⟩),⟨[]⟩⟩
noncomputable def o20 (P : Params) : Obj := ⟨(.type "code"),none,(.fields ⟨[(.str ⟨⟨[95,110,101,116,114,99,108,101,120]⟩⟩ 191),(.str ⟨⟨[95,110,101,116,114,99,108,101,120]⟩⟩ 192),(.str ⟨⟨[47,99,108,97,105,109,47,99,117,116,46,112,121]⟩⟩ 193),(.int (.ofNat 2) 0),(.int (.ofNat 0) 0),(.int (.ofNat 0) 0),(.int (.ofNat 0) 0),(.int (.ofNat 0) 0),(.ref 18),(.bool false),(.int (.ofNat 181) 0),(.ref 19),.none,.none,.none,.none,(.int (.ofNat 194) 0),(.int (.ofNat 2) 0),(.str ⟨⟨[47,99,108,97,105,109,47,99,117,116,46,112,121]⟩⟩ 195)]⟩),⟨[]⟩⟩
noncomputable def o21 (P : Params) : Obj := ⟨(.type "frame"),none,.plain,⟨[(some (.ref 20)),(some (.ref 3)),(some (.ref 17)),none,(some (.str ⟨⟨[99,112,121,51,49,51,46,110,101,116,114,99]⟩⟩ 187)),none,(some (.ref 0))]⟩⟩
noncomputable def o22 (P : Params) : Obj := ⟨(.type "tuple"),none,(.seq ⟨[]⟩ 0),⟨[]⟩⟩
noncomputable def o23 (P : Params) : Obj := ⟨.none,none,(.fields ⟨[]⟩),⟨[]⟩⟩
noncomputable def o24 (P : Params) : Obj := ⟨(.type "tuple"),none,(.seq ⟨[(.str ⟨⟨[115,101,108,102]⟩⟩ 204),(.str ⟨⟨[102,112]⟩⟩ 205)]⟩ 0),⟨[]⟩⟩
noncomputable def o25 (P : Params) : Obj := ⟨(.type "tuple"),none,(.seq ⟨[]⟩ 0),⟨[]⟩⟩
noncomputable def o26 (P : Params) : Obj := ⟨.none,none,(.func ⟨⟨⟨[95,95,105,110,105,116,95,95]⟩⟩,⟨⟨[95,110,101,116,114,99,108,101,120,46,95,95,105,110,105,116,95,95]⟩⟩,(fdp (cst 0)).1,.stmts (fdp (cst 0)).2.1,(fdp (cst 0)).2.2,0,[],.none,.none,.none,.none,none,.none,.none,0⟩),⟨[]⟩⟩
noncomputable def o27 (P : Params) : Obj := ⟨(.type "code"),none,(.fields ⟨[(.str ⟨⟨[95,95,105,110,105,116,95,95]⟩⟩ 201),(.str ⟨⟨[95,110,101,116,114,99,108,101,120,46,95,95,105,110,105,116,95,95]⟩⟩ 202),(.str ⟨⟨[47,99,108,97,105,109,47,99,117,116,46,112,121]⟩⟩ 203),(.int (.ofNat 4) 0),(.int (.ofNat 2) 0),(.int (.ofNat 0) 0),(.int (.ofNat 0) 0),(.int (.ofNat 3) 0),(.ref 22),(.bool true),(.int (.ofNat 181) 0),(.ref 23),.none,(.ref 24),(.ref 25),(.ref 26),(.int (.ofNat 206) 0),(.int (.ofNat 4) 0),(.str ⟨⟨[47,99,108,97,105,109,47,99,117,116,46,112,121]⟩⟩ 207)]⟩),⟨[]⟩⟩
noncomputable def o28 (P : Params) : Obj := ⟨(.type "function"),none,(.func ⟨⟨⟨[95,95,105,110,105,116,95,95]⟩⟩,⟨⟨[95,110,101,116,114,99,108,101,120,46,95,95,105,110,105,116,95,95]⟩⟩,(fdp (cst 0)).1,.stmts (fdp (cst 0)).2.1,(fdp (cst 0)).2.2,3,[],.none,.none,.none,(.str ⟨⟨[99,112,121,51,49,51,46,110,101,116,114,99]⟩⟩ 187),none,(.ref 27),.none,0⟩),⟨[]⟩⟩
noncomputable def o29 (P : Params) : Obj := ⟨(.type "tuple"),none,(.seq ⟨[]⟩ 0),⟨[]⟩⟩
noncomputable def o30 (P : Params) : Obj := ⟨.none,none,(.fields ⟨[]⟩),⟨[]⟩⟩
noncomputable def o31 (P : Params) : Obj := ⟨(.type "tuple"),none,(.seq ⟨[(.str ⟨⟨[115,101,108,102]⟩⟩ 212),(.str ⟨⟨[99,104]⟩⟩ 213)]⟩ 0),⟨[]⟩⟩
noncomputable def o32 (P : Params) : Obj := ⟨(.type "tuple"),none,(.seq ⟨[]⟩ 0),⟨[]⟩⟩
noncomputable def o33 (P : Params) : Obj := ⟨.none,none,(.func ⟨⟨⟨[95,114,101,97,100,95,99,104,97,114]⟩⟩,⟨⟨[95,110,101,116,114,99,108,101,120,46,95,114,101,97,100,95,99,104,97,114]⟩⟩,(fdp (cst 1)).1,.stmts (fdp (cst 1)).2.1,(fdp (cst 1)).2.2,0,[],.none,.none,.none,.none,none,.none,.none,0⟩),⟨[]⟩⟩
noncomputable def o34 (P : Params) : Obj := ⟨(.type "code"),none,(.fields ⟨[(.str ⟨⟨[95,114,101,97,100,95,99,104,97,114]⟩⟩ 209),(.str ⟨⟨[95,110,101,116,114,99,108,101,120,46,95,114,101,97,100,95,99,104,97,114]⟩⟩ 210),(.str ⟨⟨[47,99,108,97,105,109,47,99,117,116,46,112,121]⟩⟩ 211),(.int (.ofNat 10) 0),(.int (.ofNat 1) 0),(.int (.ofNat 0) 0),(.int (.ofNat 0) 0),(.int (.ofNat 3) 0),(.ref 29),(.bool true),(.int (.ofNat 181) 0),(.ref 30),.none,(.ref 31),(.ref 32),(.ref 33),(.int (.ofNat 214) 0),(.int (.ofNat 10) 0),(.str ⟨⟨[47,99,108,97,105,109,47,99,117,116,46,112,121]⟩⟩ 215)]⟩),⟨[]⟩⟩
noncomputable def o35 (P : Params) : Obj := ⟨(.type "function"),none,(.func ⟨⟨⟨[95,114,101,97,100,95,99,104,97,114]⟩⟩,⟨⟨[95,110,101,116,114,99,108,101,120,46,95,114,101,97,100,95,99,104,97,114]⟩⟩,(fdp (cst 1)).1,.stmts (fdp (cst 1)).2.1,(fdp (cst 1)).2.2,3,[],.none,.none,.none,(.str ⟨⟨[99,112,121,51,49,51,46,110,101,116,114,99]⟩⟩ 187),none,(.ref 34),.none,0⟩),⟨[]⟩⟩
noncomputable def o36 (P : Params) : Obj := ⟨(.type "tuple"),none,(.seq ⟨[]⟩ 0),⟨[]⟩⟩
noncomputable def o37 (P : Params) : Obj := ⟨.none,none,(.fields ⟨[]⟩),⟨[]⟩⟩
noncomputable def o38 (P : Params) : Obj := ⟨(.type "tuple"),none,(.seq ⟨[(.str ⟨⟨[115,101,108,102]⟩⟩ 220),(.str ⟨⟨[116,111,107,101,110]⟩⟩ 221),(.str ⟨⟨[102,105,116,101,114]⟩⟩ 222),(.str ⟨⟨[99,104]⟩⟩ 223)]⟩ 0),⟨[]⟩⟩
noncomputable def o39 (P : Params) : Obj := ⟨(.type "tuple"),none,(.seq ⟨[]⟩ 0),⟨[]⟩⟩
noncomputable def o40 (P : Params) : Obj := ⟨.none,none,(.func ⟨⟨⟨[103,101,116,95,116,111,107,101,110]⟩⟩,⟨⟨[95,110,101,116,114,99,108,101,120,46,103,101,116,95,116,111,107,101,110]⟩⟩,(fdp (cst 2)).1,.stmts (fdp (cst 2)).2.1,(fdp (cst 2)).2.2,0,[],.none,.none,.none,.none,none,.none,.none,0⟩),⟨[]⟩⟩
noncomputable def o41 (P : Params) : Obj := ⟨(.type "code"),none,(.fields ⟨[(.str ⟨⟨[103,101,116,95,116,111,107,101,110]⟩⟩ 217),(.str ⟨⟨[95,110,101,116,114,99,108,101,120,46,103,101,116,95,116,111,107,101,110]⟩⟩ 218),(.str ⟨⟨[47,99,108,97,105,109,47,99,117,116,46,112,121]⟩⟩ 219),(.int (.ofNat 16) 0),(.int (.ofNat 1) 0),(.int (.ofNat 0) 0),(.int (.ofNat 0) 0),(.int (.ofNat 3) 0),(.ref 36),(.bool true),(.int (.ofNat 181) 0),(.ref 37),.none,(.ref 38),(.ref 39),(.ref 40),(.int (.ofNat 224) 0),(.int (.ofNat 16) 0),(.str ⟨⟨[47,99,108,97,105,109,47,99,117,116,46,112,121]⟩⟩ 225)]⟩),⟨[]⟩⟩
noncomputable def o42 (P : Params) : Obj := ⟨(.type "function"),none,(.func ⟨⟨⟨[103,101,116,95,116,111,107,101,110]⟩⟩,⟨⟨[95,110,101,116,114,99,108,101,120,46,103,101,116,95,116,111,107,101,110]⟩⟩,(fdp (cst 2)).1,.stmts (fdp (cst 2)).2.1,(fdp (cst 2)).2.2,3,[],.none,.none,.none,(.str ⟨⟨[99,112,121,51,49,51,46,110,101,116,114,99]⟩⟩ 187),none,(.ref 41),.none,0⟩),⟨[]⟩⟩
noncomputable def o43 (P : Params) : Obj := ⟨(.type "tuple"),none,(.seq ⟨[]⟩ 0),⟨[]⟩⟩
noncomputable def o44 (P : Params) : Obj := ⟨.none,none,(.fields ⟨[]⟩),⟨[]⟩⟩
noncomputable def o45 (P : Params) : Obj := ⟨(.type "tuple"),none,(.seq ⟨[(.str ⟨⟨[115,101,108,102]⟩⟩ 230),(.str ⟨⟨[116,111,107,101,110]⟩⟩ 231)]⟩ 0),⟨[]⟩⟩
noncomputable def o46 (P : Params) : Obj := ⟨(.type "tuple"),none,(.seq ⟨[]⟩ 0),⟨[]⟩⟩
noncomputable def o47 (P : Params) : Obj := ⟨.none,none,(.func ⟨⟨⟨[112,117,115,104,95,116,111,107,101,110]⟩⟩,⟨⟨[95,110,101,116,114,99,108,101,120,46,112,117,115,104,95,116,111,107,101,110]⟩⟩,(fdp (cst 3)).1,.stmts (fdp (cst 3)).2.1,(fdp (cst 3)).2.2,0,[],.none,.none,.none,.none,none,.none,.none,0⟩),⟨[]⟩⟩
noncomputable def o48 (P : Params) : Obj := ⟨(.type "code"),none,(.fields ⟨[(.str ⟨⟨[112,117,115,104,95,116,111,107,101,110]⟩⟩ 227),(.str ⟨⟨[95,110,101,116,114,99,108,101,120,46,112,117,115,104,95,116,111,107,101,110]⟩⟩ 228),(.str ⟨⟨[47,99,108,97,105,109,47,99,117,116,46,112,121]⟩⟩ 229),(.int (.ofNat 43) 0),(.int (.ofNat 2) 0),(.int (.ofNat 0) 0),(.int (.ofNat 0) 0),(.int (.ofNat 3) 0),(.ref 43),(.bool true),(.int (.ofNat 181) 0),(.ref 44),.none,(.ref 45),(.ref 46),(.ref 47),(.int (.ofNat 232) 0),(.int (.ofNat 43) 0),(.str ⟨⟨[47,99,108,97,105,109,47,99,117,116,46,112,121]⟩⟩ 233)]⟩),⟨[]⟩⟩
noncomputable def o49 (P : Params) : Obj := ⟨(.type "function"),none,(.func ⟨⟨⟨[112,117,115,104,95,116,111,107,101,110]⟩⟩,⟨⟨[95,110,101,116,114,99,108,101,120,46,112,117,115,104,95,116,111,107,101,110]⟩⟩,(fdp (cst 3)).1,.stmts (fdp (cst 3)).2.1,(fdp (cst 3)).2.2,3,[],.none,.none,.none,(.str ⟨⟨[99,112,121,51,49,51,46,110,101,116,114,99]⟩⟩ 187),none,(.ref 48),.none,0⟩),⟨[]⟩⟩
noncomputable def o50 (P : Params) : Obj := ⟨(.type "tuple"),none,(.seq ⟨[(.str ⟨⟨[105,110,115,116,114,101,97,109]⟩⟩ 235),(.str ⟨⟨[108,105,110,101,110,111]⟩⟩ 236),(.str ⟨⟨[112,117,115,104,98,97,99,107]⟩⟩ 237),(.str ⟨⟨[119,104,105,116,101,115,112,97,99,101]⟩⟩ 238)]⟩ 0),⟨[]⟩⟩
noncomputable def o51 (P : Params) : Obj := ⟨(.type "dict"),none,(.dict ⟨[⟨PyData.keyHash P ⟨⟨[95,95,109,111,100,117,108,101,95,95]⟩⟩,(.str ⟨⟨[95,95,109,111,100,117,108,101,95,95]⟩⟩ 196),(.str ⟨⟨[99,112,121,51,49,51,46,110,101,116,114,99]⟩⟩ 187)⟩,⟨PyData.keyHash P ⟨⟨[95,95,102,105,114,115,116,108,105,110,101,110,111,95,95]⟩⟩,(.str ⟨⟨[95,95,102,105,114,115,116,108,105,110,101,110,111,95,95]⟩⟩ 200),(.int (.ofNat 2) 199)⟩,⟨PyData.keyHash P ⟨⟨[95,95,105,110,105,116,95,95]⟩⟩,(.str ⟨⟨[95,95,105,110,105,116,95,95]⟩⟩ 208),(.ref 28)⟩,⟨PyData.keyHash P ⟨⟨[95,114,101,97,100,95,99,104,97,114]⟩⟩,(.str ⟨⟨[95,114,101,97,100,95,99,104,97,114]⟩⟩ 216),(.ref 35)⟩,⟨PyData.keyHash P ⟨⟨[103,101,116,95,116,111,107,101,110]⟩⟩,(.str ⟨⟨[103,101,116,95,116,111,107,101,110]⟩⟩ 226),(.ref 42)⟩,⟨PyData.keyHash P ⟨⟨[112,117,115,104,95,116,111,107,101,110]⟩⟩,(.str ⟨⟨[112,117,115,104,95,116,111,107,101,110]⟩⟩ 234),(.ref 49)⟩,⟨PyData.keyHash P ⟨⟨[95,95,115,116,97,116,105,99,95,97,116,116,114,105,98,117,116,101,115,95,95]⟩⟩,(.str ⟨⟨[95,95,115,116,97,116,105,99,95,97,116,116,114,105,98,117,116,101,115,95,95]⟩⟩ 239),(.ref 50)⟩,⟨PyData.keyHash P ⟨⟨[95,95,100,105,99,116,95,95]⟩⟩,(.str ⟨⟨[95,95,100,105,99,116,95,95]⟩⟩ 241),(.ref 53)⟩,⟨PyData.keyHash P ⟨⟨[95,95,119,101,97,107,114,101,102,95,95]⟩⟩,(.str ⟨⟨[95,95,119,101,97,107,114,101,102,95,95]⟩⟩ 243),(.ref 54)⟩,⟨PyData.keyHash P ⟨⟨[95,95,100,111,99,95,95]⟩⟩,(.str ⟨⟨[95,95,100,111,99,95,95]⟩⟩ 244),.none⟩]⟩ 4),⟨[]⟩⟩
noncomputable def o52 (P : Params) : Obj := ⟨(.type "type"),none,(.cls ⟨⟨⟨[95,110,101,116,114,99,108,101,120]⟩⟩,[(.type "object")],[(.ref 52),(.type "object")],51,⟨⟨[95,110,101,116,114,99,108,101,120]⟩⟩,true,[],[],false,none,false⟩),⟨[none,none,(some (.str ⟨⟨[95,110,101,116,114,99,108,101,120]⟩⟩ 189)),(some (.str ⟨⟨[95,110,101,116,114,99,108,101,120]⟩⟩ 197)),(some (.builtin "object.__new__")),(some (.bool true))]⟩⟩
noncomputable def o53 (P : Params) : Obj := ⟨(.type "getset_descriptor"),none,(.fields ⟨[(.str ⟨⟨[95,95,100,105,99,116,95,95]⟩⟩ 240),(.ref 52),(.builtin "function.__dict__"),(.builtin "function.__dict__#set")]⟩),⟨[]⟩⟩
noncomputable def o54 (P : Params) : Obj := ⟨(.type "getset_descriptor"),none,(.fields ⟨[(.str ⟨⟨[95,95,119,101,97,107,114,101,102,95,95]⟩⟩ 242),(.ref 52),(.builtin "ExceptionGroup.__weakref__"),.none]⟩),⟨[]⟩⟩
noncomputable def o55 (P : Params) : Obj := ⟨(.type "super"),none,(.fields ⟨[(.ref 52),(.ref 52),(.ref 52)]⟩),⟨[]⟩⟩
noncomputable def o56 (P : Params) : Obj := ⟨(.type "builtin_function_or_method"),none,(.fields ⟨[(.builtin "object.__init_subclass__"),(.ref 52)]⟩),⟨[]⟩⟩
noncomputable def o57 (P : Params) : Obj := ⟨(.type "tuple"),none,(.seq ⟨[]⟩ 0),⟨[]⟩⟩
noncomputable def o58 (P : Params) : Obj := ⟨.none,none,(.fields ⟨[]⟩),⟨[]⟩⟩
noncomputable def o59 (P : Params) : Obj := ⟨(.type "tuple"),none,(.seq ⟨[(.str ⟨⟨[97]⟩⟩ 252),(.str ⟨⟨[98]⟩⟩ 253)]⟩ 0),⟨[]⟩⟩
noncomputable def o60 (P : Params) : Obj := ⟨(.type "tuple"),none,(.seq ⟨[]⟩ 0),⟨[]⟩⟩
noncomputable def o61 (P : Params) : Obj := ⟨.none,none,(.func ⟨⟨⟨[108,116]⟩⟩,⟨⟨[108,116]⟩⟩,(fdp (st 3)).1,.stmts (fdp (st 3)).2.1,(fdp (st 3)).2.2,0,[],.none,.none,.none,.none,none,.none,.none,0⟩),⟨[]⟩⟩
noncomputable def o62 (P : Params) : Obj := ⟨(.type "code"),none,(.fields ⟨[(.str ⟨⟨[108,116]⟩⟩ 249),(.str ⟨⟨[108,116]⟩⟩ 250),(.str ⟨⟨[47,99,108,97,105,109,47,99,117,116,46,112,121]⟩⟩ 251),(.int (.ofNat 46) 0),(.int (.ofNat 2) 0),(.int (.ofNat 0) 0),(.int (.ofNat 0) 0),(.int (.ofNat 3) 0),(.ref 57),(.bool true),(.int (.ofNat 181) 0),(.ref 58),.none,(.ref 59),(.ref 60),(.ref 61),(.int (.ofNat 254) 0),(.int (.ofNat 46) 0),(.str ⟨⟨[47,99,108,97,105,109,47,99,117,116,46,112,121]⟩⟩ 255)]⟩),⟨[]⟩⟩
noncomputable def o63 (P : Params) : Obj := ⟨(.type "function"),none,(.func ⟨⟨⟨[108,116]⟩⟩,⟨⟨[108,116]⟩⟩,(fdp (st 3)).1,.stmts (fdp (st 3)).2.1,(fdp (st 3)).2.2,3,[],.none,.none,.none,(.str ⟨⟨[99,112,121,51,49,51,46,111,112,101,114,97,116,111,114]⟩⟩ 247),none,(.ref 62),.none,0⟩),⟨[]⟩⟩
noncomputable def o64 (P : Params) : Obj := ⟨(.type "tuple"),none,(.seq ⟨[]⟩ 0),⟨[]⟩⟩
noncomputable def o65 (P : Params) : Obj := ⟨.none,none,(.fields ⟨[]⟩),⟨[]⟩⟩
noncomputable def o66 (P : Params) : Obj := ⟨(.type "tuple"),none,(.seq ⟨[(.str ⟨⟨[97]⟩⟩ 260),(.str ⟨⟨[98]⟩⟩ 261)]⟩ 0),⟨[]⟩⟩
noncomputable def o67 (P : Params) : Obj := ⟨(.type "tuple"),none,(.seq ⟨[]⟩ 0),⟨[]⟩⟩
noncomputable def o68 (P : Params) : Obj := ⟨.none,none,(.func ⟨⟨⟨[97,100,100]⟩⟩,⟨⟨[97,100,100]⟩⟩,(fdp (st 4)).1,.stmts (fdp (st 4)).2.1,(fdp (st 4)).2.2,0,[],.none,.none,.none,.none,none,.none,.none,0⟩),⟨[]⟩⟩
noncomputable def o69 (P : Params) : Obj := ⟨(.type "code"),none,(.fields ⟨[(.str ⟨⟨[97,100,100]⟩⟩ 257),(.str ⟨⟨[97,100,100]⟩⟩ 258),(.str ⟨⟨[47,99,108,97,105,109,47,99,117,116,46,112,121]⟩⟩ 259),(.int (.ofNat 48) 0),(.int (.ofNat 2) 0),(.int (.ofNat 0) 0),(.int (.ofNat 0) 0),(.int (.ofNat 3) 0),(.ref 64),(.bool true),(.int (.ofNat 181) 0),(.ref 65),.none,(.ref 66),(.ref 67),(.ref 68),(.int (.ofNat 262) 0),(.int (.ofNat 48) 0),(.str ⟨⟨[47,99,108,97,105,109,47,99,117,116,46,112,121]⟩⟩ 263)]⟩),⟨[]⟩⟩
noncomputable def o70 (P : Params) : Obj := ⟨(.type "function"),none,(.func ⟨⟨⟨[97,100,100]⟩⟩,⟨⟨[97,100,100]⟩⟩,(fdp (st 4)).1,.stmts (fdp (st 4)).2.1,(fdp (st 4)).2.2,3,[],.none,.none,.none,(.str ⟨⟨[99,112,121,51,49,51,46,111,112,101,114,97,116,111,114]⟩⟩ 247),none,(.ref 69),.none,0⟩),⟨[]⟩⟩
noncomputable def o71 (P : Params) : Obj := ⟨(.type "tuple"),none,(.seq ⟨[]⟩ 0),⟨[]⟩⟩
noncomputable def o72 (P : Params) : Obj := ⟨.none,none,(.fields ⟨[]⟩),⟨[]⟩⟩
noncomputable def o73 (P : Params) : Obj := ⟨(.type "tuple"),none,(.seq ⟨[(.str ⟨⟨[97]⟩⟩ 268),(.str ⟨⟨[98]⟩⟩ 269)]⟩ 0),⟨[]⟩⟩
noncomputable def o74 (P : Params) : Obj := ⟨(.type "tuple"),none,(.seq ⟨[]⟩ 0),⟨[]⟩⟩
noncomputable def o75 (P : Params) : Obj := ⟨.none,none,(.func ⟨⟨⟨[115,117,98]⟩⟩,⟨⟨[115,117,98]⟩⟩,(fdp (st 5)).1,.stmts (fdp (st 5)).2.1,(fdp (st 5)).2.2,0,[],.none,.none,.none,.none,none,.none,.none,0⟩),⟨[]⟩⟩
noncomputable def o76 (P : Params) : Obj := ⟨(.type "code"),none,(.fields ⟨[(.str ⟨⟨[115,117,98]⟩⟩ 265),(.str ⟨⟨[115,117,98]⟩⟩ 266),(.str ⟨⟨[47,99,108,97,105,109,47,99,117,116,46,112,121]⟩⟩ 267),(.int (.ofNat 50) 0),(.int (.ofNat 2) 0),(.int (.ofNat 0) 0),(.int (.ofNat 0) 0),(.int (.ofNat 3) 0),(.ref 71),(.bool true),(.int (.ofNat 181) 0),(.ref 72),.none,(.ref 73),(.ref 74),(.ref 75),(.int (.ofNat 270) 0),(.int (.ofNat 50) 0),(.str ⟨⟨[47,99,108,97,105,109,47,99,117,116,46,112,121]⟩⟩ 271)]⟩),⟨[]⟩⟩
noncomputable def o77 (P : Params) : Obj := ⟨(.type "function"),none,(.func ⟨⟨⟨[115,117,98]⟩⟩,⟨⟨[115,117,98]⟩⟩,(fdp (st 5)).1,.stmts (fdp (st 5)).2.1,(fdp (st 5)).2.2,3,[],.none,.none,.none,(.str ⟨⟨[99,112,121,51,49,51,46,111,112,101,114,97,116,111,114]⟩⟩ 247),none,(.ref 76),.none,0⟩),⟨[]⟩⟩
noncomputable def o78 (P : Params) : Obj := ⟨(.type "list"),none,(.seq ⟨[(.int (.ofNat 173) 275),(.int (.ofNat 847) 276),(.int (.ofNat 6150) 277),(.int (.ofNat 6155) 278),(.int (.ofNat 6156) 279),(.int (.ofNat 6157) 280),(.int (.ofNat 8203) 281),(.int (.ofNat 8204) 282),(.int (.ofNat 8205) 283),(.int (.ofNat 8288) 284),(.int (.ofNat 65279) 285)]⟩ 0),⟨[]⟩⟩
noncomputable def o79 (P : Params) : Obj := ⟨(.type "range"),none,(.fields ⟨[(.int (.ofNat 65024) 286),(.int (.ofNat 65040) 287),(.int (.ofNat 1) 288)]⟩),⟨[]⟩⟩
noncomputable def o80 (P : Params) : Obj := ⟨(.type "list"),none,(.seq ⟨[(.int (.ofNat 65024) 291),(.int (.ofNat 65025) 292),(.int (.ofNat 65026) 293),(.int (.ofNat 65027) 294),(.int (.ofNat 65028) 295),(.int (.ofNat 65029) 296),(.int (.ofNat 65030) 297),(.int (.ofNat 65031) 298),(.int (.ofNat 65032) 299),(.int (.ofNat 65033) 300),(.int (.ofNat 65034) 301),(.int (.ofNat 65035) 302),(.int (.ofNat 65036) 303),(.int (.ofNat 65037) 304),(.int (.ofNat 65038) 305),(.int (.ofNat 65039) 306)]⟩ 18),⟨[]⟩⟩
noncomputable def o81 (P : Params) : Obj := ⟨(.type "range_iterator"),none,(.fields ⟨[(.int (.ofNat 65040) 0),(.int (.ofNat 0) 0),(.int (.ofNat 1) 0)]⟩),⟨[]⟩⟩
noncomputable def o82 (P : Params) : Obj := ⟨(.type "tuple"),none,(.seq ⟨[]⟩ 0),⟨[]⟩⟩
noncomputable def o83 (P : Params) : Obj := ⟨(.type "StopIteration"),none,(.fields ⟨[(.ref 82),.none,.none,.none,(.bool false),.none]⟩),⟨[]⟩⟩
noncomputable def o84 (P : Params) : Obj := ⟨(.type "list"),none,(.seq ⟨[(.int (.ofNat 173) 275),(.int (.ofNat 847) 276),(.int (.ofNat 6150) 277),(.int (.ofNat 6155) 278),(.int (.ofNat 6156) 279),(.int (.ofNat 6157) 280),(.int (.ofNat 8203) 281),(.int (.ofNat 8204) 282),(.int (.ofNat 8205) 283),(.int (.ofNat 8288) 284),(.int (.ofNat 65279) 285),(.int (.ofNat 65024) 291),(.int (.ofNat 65025) 292),(.int (.ofNat 65026) 293),(.int (.ofNat 65027) 294),(.int (.ofNat 65028) 295),(.int (.ofNat 65029) 296),(.int (.ofNat 65030) 297),(.int (.ofNat 65031) 298),(.int (.ofNat 65032) 299),(.int (.ofNat 65033) 300),(.int (.ofNat 65034) 301),(.int (.ofNat 65035) 302),(.int (.ofNat 65036) 303),(.int (.ofNat 65037) 304),(.int (.ofNat 65038) 305),(.int (.ofNat 65039) 306)]⟩ 0),⟨[]⟩⟩
noncomputable def o85 (P : Params) : Obj := ⟨(.type "set"),none,(.set ⟨[((.ofNat 65024),(.int (.ofNat 65024) 291)),((.ofNat 65025),(.int (.ofNat 65025) 292)),((.ofNat 65026),(.int (.ofNat 65026) 293)),((.ofNat 65027),(.int (.ofNat 65027) 294)),((.ofNat 65028),(.int (.ofNat 65028) 295)),((.ofNat 65029),(.int (.ofNat 65029) 296)),((.ofNat 6150),(.int (.ofNat 6150) 277)),((.ofNat 65030),(.int (.ofNat 65030) 297)),((.ofNat 65031),(.int (.ofNat 65031) 298)),((.ofNat 65032),(.int (.ofNat 65032) 299)),((.ofNat 65033),(.int (.ofNat 65033) 300)),((.ofNat 6155),(.int (.ofNat 6155) 278)),((.ofNat 6156),(.int (.ofNat 6156) 279)),((.ofNat 6157),(.int (.ofNat 6157) 280)),((.ofNat 8203),(.int (.ofNat 8203) 281)),((.ofNat 8204),(.int (.ofNat 8204) 282)),((.ofNat 8205),(.int (.ofNat 8205) 283)),((.ofNat 65034),(.int (.ofNat 65034) 301)),((.ofNat 65035),(.int (.ofNat 65035) 302)),((.ofNat 65036),(.int (.ofNat 65036) 303)),((.ofNat 65037),(.int (.ofNat 65037) 304)),((.ofNat 65038),(.int (.ofNat 65038) 305)),((.ofNat 65039),(.int (.ofNat 65039) 306)),((.ofNat 173),(.int (.ofNat 173) 275)),((.ofNat 847),(.int (.ofNat 847) 276)),((.ofNat 8288),(.int (.ofNat 8288) 284)),((.ofNat 65279),(.int (.ofNat 65279) 285))]⟩ 29 ⟨127,⟨[0,1,2,3,4,5,6,7,8,9,10,11,12,13,14,15,16,17,18,19,20,21,22,45,79,96,127]⟩,⟨[]⟩,0,!P.followText "set-order",2,true⟩),⟨[]⟩⟩
noncomputable def o86 (P : Params) : Obj := ⟨(.type "list_iterator"),none,(.fields ⟨[.none,(.int (.ofNat 27) 0)]⟩),⟨[]⟩⟩
noncomputable def o87 (P : Params) : Obj := ⟨(.type "tuple"),none,(.seq ⟨[]⟩ 0),⟨[]⟩⟩
noncomputable def o88 (P : Params) : Obj := ⟨(.type "StopIteration"),none,(.fields ⟨[(.ref 87),.none,.none,.none,(.bool false),.none]⟩),⟨[]⟩⟩
noncomputable def o89 (P : Params) : Obj := ⟨(.type "tuple"),none,(.seq ⟨[]⟩ 0),⟨[]⟩⟩
noncomputable def o90 (P : Params) : Obj := ⟨.none,none,(.fields ⟨[]⟩),⟨[]⟩⟩
noncomputable def o91 (P : Params) : Obj := ⟨(.type "tuple"),none,(.seq ⟨[(.str ⟨⟨[99,111,100,101]⟩⟩ 338)]⟩ 0),⟨[]⟩⟩
noncomputable def o92 (P : Params) : Obj := ⟨(.type "tuple"),none,(.seq ⟨[]⟩ 0),⟨[]⟩⟩
noncomputable def o93 (P : Params) : Obj := ⟨.none,none,(.func ⟨⟨⟨[105,110,95,116,97,98,108,101,95,98,49]⟩⟩,⟨⟨[105,110,95,116,97,98,108,101,95,98,49]⟩⟩,(fdp (st 8)).1,.stmts (fdp (st 8)).2.1,(fdp (st 8)).2.2,0,[],.none,.none,.none,.none,none,.none,.none,0⟩),⟨[]⟩⟩
noncomputable def o94 (P : Params) : Obj := ⟨(.type "code"),none,(.fields ⟨[(.str ⟨⟨[105,110,95,116,97,98,108,101,95,98,49]⟩⟩ 335),(.str ⟨⟨[105,110,95,116,97,98,108,101,95,98,49]⟩⟩ 336),(.str ⟨⟨[47,99,108,97,105,109,47,99,117,116,46,112,121]⟩⟩ 337),(.int (.ofNat 54) 0),(.int (.ofNat 1) 0),(.int (.ofNat 0) 0),(.int (.ofNat 0) 0),(.int (.ofNat 3) 0),(.ref 89),(.bool true),(.int (.ofNat 181) 0),(.ref 90),.none,(.ref 91),(.ref 92),(.ref 93),(.int (.ofNat 339) 0),(.int (.ofNat 54) 0),(.str ⟨⟨[47,99,108,97,105,109,47,99,117,116,46,112,121]⟩⟩ 340)]⟩),⟨[]⟩⟩
noncomputable def o95 (P : Params) : Obj := ⟨(.type "function"),none,(.func ⟨⟨⟨[105,110,95,116,97,98,108,101,95,98,49]⟩⟩,⟨⟨[105,110,95,116,97,98,108,101,95,98,49]⟩⟩,(fdp (st 8)).1,.stmts (fdp (st 8)).2.1,(fdp (st 8)).2.2,3,[],.none,.none,.none,(.str ⟨⟨[99,112,121,51,49,51,46,115,116,114,105,110,103,112,114,101,112]⟩⟩ 273),none,(.ref 94),.none,0⟩),⟨[]⟩⟩
noncomputable def o96 (P : Params) : Obj := ⟨(.type "dict"),none,(.dict ⟨[⟨(.ofNat 181),(.int (.ofNat 181) 342),(.str ⟨⟨[956]⟩⟩ 343)⟩,⟨(.ofNat 223),(.int (.ofNat 223) 345),(.str ⟨⟨[115,115]⟩⟩ 346)⟩,⟨(.ofNat 304),(.int (.ofNat 304) 348),(.str ⟨⟨[105,775]⟩⟩ 349)⟩,⟨(.ofNat 329),(.int (.ofNat 329) 351),(.str ⟨⟨[700,110]⟩⟩ 352)⟩,⟨(.ofNat 383),(.int (.ofNat 383) 354),(.str ⟨⟨[115]⟩⟩ 355)⟩,⟨(.ofNat 496),(.int (.ofNat 496) 357),(.str ⟨⟨[106,780]⟩⟩ 358)⟩,⟨(.ofNat 837),(.int (.ofNat 837) 360),(.str ⟨⟨[953]⟩⟩ 361)⟩,⟨(.ofNat 890),(.int (.ofNat 890) 363),(.str ⟨⟨[32,953]⟩⟩ 364)⟩,⟨(.ofNat 912),(.int (.ofNat 912) 366),(.str ⟨⟨[953,776,769]⟩⟩ 367)⟩,⟨(.ofNat 944),(.int (.ofNat 944) 369),(.str ⟨⟨[965,776,769]⟩⟩ 370)⟩,⟨(.ofNat 962),(.int (.ofNat 962) 372),(.str ⟨⟨[963]⟩⟩ 373)⟩,⟨(.ofNat 976),(.int (.ofNat 976) 375),(.str ⟨⟨[946]⟩⟩ 376)⟩,⟨(.ofNat 977),(.int (.ofNat 977) 378),(.str ⟨⟨[952]⟩⟩ 379)⟩,⟨(.ofNat 978),(.int (.ofNat 978) 381),(.str ⟨⟨[965]⟩⟩ 382)⟩,⟨(.ofNat 979),(.int (.ofNat 979) 384),(.str ⟨⟨[973]⟩⟩ 385)⟩,⟨(.ofNat 980),(.int (.ofNat 980) 387),(.str ⟨⟨[971]⟩⟩ 388)⟩,⟨(.ofNat 981),(.int (.ofNat 981) 390),(.str ⟨⟨[966]⟩⟩ 391)⟩,⟨(.ofNat 982),(.int (.ofNat 982) 393),(.str ⟨⟨[960]⟩⟩ 394)⟩,⟨(.ofNat 1008),(.int (.ofNat 1008) 396),(.str ⟨⟨[954]⟩⟩ 397)⟩,⟨(.ofNat 1009),(.int (.ofNat 1009) 399),(.str ⟨⟨[961]⟩⟩ 400)⟩,⟨(.ofNat 1010),(.int (.ofNat 1010) 402),(.str ⟨⟨[963]⟩⟩ 403)⟩,⟨(.ofNat 1013),(.int (.ofNat 1013) 405),(.str ⟨⟨[949]⟩⟩ 406)⟩,⟨(.ofNat 1415),(.int (.ofNat 1415) 408),(.str ⟨⟨[1381,1410]⟩⟩ 409)⟩,⟨(.ofNat 7830),(.int (.ofNat 7830) 411),(.str ⟨⟨[104,817]⟩⟩ 412)⟩,⟨(.ofNat 7831),(.int (.ofNat 7831) 414),(.str ⟨⟨[116,776]⟩⟩ 415)⟩,⟨(.ofNat 7832),(.int (.ofNat 7832) 417),(.str ⟨⟨[119,778]⟩⟩ 418)⟩,⟨(.ofNat 7833),(.int (.ofNat 7833) 420),(.str ⟨⟨[121,778]⟩⟩ 421)⟩,⟨(.ofNat 7834),(.int (.ofNat 7834) 423),(.str ⟨⟨[97,702]⟩⟩ 424)⟩,⟨(.ofNat 7835),(.int (.ofNat 7835) 426),(.str ⟨⟨[7777]⟩⟩ 427)⟩,⟨(.ofNat 8016),(.int (.ofNat 8016) 429),(.str ⟨⟨[965,787]⟩⟩ 430)⟩,⟨(.ofNat 8018),(.int (.ofNat 8018) 432),(.str ⟨⟨[965,787,768]⟩⟩ 433)⟩,⟨(.ofNat 8020),(.int (.ofNat 8020) 435),(.str ⟨⟨[965,787,769]⟩⟩ 436)⟩,⟨(.ofNat 8022),(.int (.ofNat 8022) 438),(.str ⟨⟨[965,787,834]⟩⟩ 439)⟩,⟨(.ofNat 8064),(.int (.ofNat 8064) 441),(.str ⟨⟨[7936,953]⟩⟩ 442)⟩,⟨(.ofNat 8065),(.int (.ofNat 8065) 444),(.str ⟨⟨[7937,953]⟩⟩ 445)⟩,⟨(.ofNat 8066),(.int (.ofNat 8066) 447),(.str ⟨⟨[7938,953]⟩⟩ 448)⟩,⟨(.ofNat 8067),(.int (.ofNat 8067) 450),(.str ⟨⟨[7939,953]⟩⟩ 451)⟩,⟨(.ofNat 8068),(.int (.ofNat 8068) 453),(.str ⟨⟨[7940,953]⟩⟩ 454)⟩,⟨(.ofNat 8069),(.int (.ofNat 8069) 456),(.str ⟨⟨[7941,953]⟩⟩ 457)⟩,⟨(.ofNat 8070),(.int (.ofNat 8070) 459),(.str ⟨⟨[7942,953]⟩⟩ 460)⟩,⟨(.ofNat 8071),(.int (.ofNat 8071) 462),(.str ⟨⟨[7943,953]⟩⟩ 463)⟩,⟨(.ofNat 8072),(.int (.ofNat 8072) 465),(.str ⟨⟨[7936,953]⟩⟩ 466)⟩,⟨(.ofNat 8073),(.int (.ofNat 8073) 468),(.str ⟨⟨[7937,953]⟩⟩ 469)⟩,⟨(.ofNat 8074),(.int (.ofNat 8074) 471),(.str ⟨⟨[7938,953]⟩⟩ 472)⟩,⟨(.ofNat 8075),(.int (.ofNat 8075) 474),(.str ⟨⟨[7939,953]⟩⟩ 475)⟩,⟨(.ofNat 8076),(.int (.ofNat 8076) 477),(.str ⟨⟨[7940,953]⟩⟩ 478)⟩,⟨(.ofNat 8077),(.int (.ofNat 8077) 480),(.str ⟨⟨[7941,953]⟩⟩ 481)⟩,⟨(.ofNat 8078),(.int (.ofNat 8078) 483),(.str ⟨⟨[7942,953]⟩⟩ 484)⟩,⟨(.ofNat 8079),(.int (.ofNat 8079) 486),(.str ⟨⟨[7943,953]⟩⟩ 487)⟩,⟨(.ofNat 8080),(.int (.ofNat 8080) 489),(.str ⟨⟨[7968,953]⟩⟩ 490)⟩,⟨(.ofNat 8081),(.int (.ofNat 8081) 492),(.str ⟨⟨[7969,953]⟩⟩ 493)⟩,⟨(.ofNat 8082),(.int (.ofNat 8082) 495),(.str ⟨⟨[7970,953]⟩⟩ 496)⟩,⟨(.ofNat 8083),(.int (.ofNat 8083) 498),(.str ⟨⟨[7971,953]⟩⟩ 499)⟩,⟨(.ofNat 8084),(.int (.ofNat 8084) 501),(.str ⟨⟨[7972,953]⟩⟩ 502)⟩,⟨(.ofNat 8085),(.int (.ofNat 8085) 504),(.str ⟨⟨[7973,953]⟩⟩ 505)⟩,⟨(.ofNat 8086),(.int (.ofNat 8086) 507),(.str ⟨⟨[7974,953]⟩⟩ 508)⟩,⟨(.ofNat 8087),(.int (.ofNat 8087) 510),(.str ⟨⟨[7975,953]⟩⟩ 511)⟩,⟨(.ofNat 8088),(.int (.ofNat 8088) 513),(.str ⟨⟨[7968,953]⟩⟩ 514)⟩,⟨(.ofNat 8089),(.int (.ofNat 8089) 516),(.str ⟨⟨[7969,953]⟩⟩ 517)⟩,⟨(.ofNat 8090),(.int (.ofNat 8090) 519),(.str ⟨⟨[7970,953]⟩⟩ 520)⟩,⟨(.ofNat 8091),(.int (.ofNat 8091) 522),(.str ⟨⟨[7971,953]⟩⟩ 523)⟩,⟨(.ofNat 8092),(.int (.ofNat 8092) 525),(.str ⟨⟨[7972,953]⟩⟩ 526)⟩,⟨(.ofNat 8093),(.int (.ofNat 8093) 528),(.str ⟨⟨[7973,953]⟩⟩ 529)⟩,⟨(.ofNat 8094),(.int (.ofNat 8094) 531),(.str ⟨⟨[7974,953]⟩⟩ 532)⟩,⟨(.ofNat 8095),(.int (.ofNat 8095) 534),(.str ⟨⟨[7975,953]⟩⟩ 535)⟩,⟨(.ofNat 8096),(.int (.ofNat 8096) 537),(.str ⟨⟨[8032,953]⟩⟩ 538)⟩,⟨(.ofNat 8097),(.int (.ofNat 8097) 540),(.str ⟨⟨[8033,953]⟩⟩ 541)⟩,⟨(.ofNat 8098),(.int (.ofNat 8098) 543),(.str ⟨⟨[8034,953]⟩⟩ 544)⟩,⟨(.ofNat 8099),(.int (.ofNat 8099) 546),(.str ⟨⟨[8035,953]⟩⟩ 547)⟩,⟨(.ofNat 8100),(.int (.ofNat 8100) 549),(.str ⟨⟨[8036,953]⟩⟩ 550)⟩,⟨(.ofNat 8101),(.int (.ofNat 8101) 552),(.str ⟨⟨[8037,953]⟩⟩ 553)⟩,⟨(.ofNat 8102),(.int (.ofNat 8102) 555),(.str ⟨⟨[8038,953]⟩⟩ 556)⟩,⟨(.ofNat 8103),(.int (.ofNat 8103) 558),(.str ⟨⟨[8039,953]⟩⟩ 559)⟩,⟨(.ofNat 8104),(.int (.ofNat 8104) 561),(.str ⟨⟨[8032,953]⟩⟩ 562)⟩,⟨(.ofNat 8105),(.int (.ofNat 8105) 564),(.str ⟨⟨[8033,953]⟩⟩ 565)⟩,⟨(.ofNat 8106),(.int (.ofNat 8106) 567),(.str ⟨⟨[8034,953]⟩⟩ 568)⟩,⟨(.ofNat 8107),(.int (.ofNat 8107) 570),(.str ⟨⟨[8035,953]⟩⟩ 571)⟩,⟨(.ofNat 8108),(.int (.ofNat 8108) 573),(.str ⟨⟨[8036,953]⟩⟩ 574)⟩,⟨(.ofNat 8109),(.int (.ofNat 8109) 576),(.str ⟨⟨[8037,953]⟩⟩ 577)⟩,⟨(.ofNat 8110),(.int (.ofNat 8110) 579),(.str ⟨⟨[8038,953]⟩⟩ 580)⟩,⟨(.ofNat 8111),(.int (.ofNat 8111) 582),(.str ⟨⟨[8039,953]⟩⟩ 583)⟩,⟨(.ofNat 8114),(.int (.ofNat 8114) 585),(.str ⟨⟨[8048,953]⟩⟩ 586)⟩,⟨(.ofNat 8115),(.int (.ofNat 8115) 588),(.str ⟨⟨[945,953]⟩⟩ 589)⟩,⟨(.ofNat 8116),(.int (.ofNat 8116) 591),(.str ⟨⟨[940,953]⟩⟩ 592)⟩,⟨(.ofNat 8118),(.int (.ofNat 8118) 594),(.str ⟨⟨[945,834]⟩⟩ 595)⟩,⟨(.ofNat 8119),(.int (.ofNat 8119) 597),(.str ⟨⟨[945,834,953]⟩⟩ 598)⟩,⟨(.ofNat 8124),(.int (.ofNat 8124) 600),(.str ⟨⟨[945,953]⟩⟩ 601)⟩,⟨(.ofNat 8126),(.int (.ofNat 8126) 603),(.str ⟨⟨[953]⟩⟩ 604)⟩,⟨(.ofNat 8130),(.int (.ofNat 8130) 606),(.str ⟨⟨[8052,953]⟩⟩ 607)⟩,⟨(.ofNat 8131),(.int (.ofNat 8131) 609),(.str ⟨⟨[951,953]⟩⟩ 610)⟩,⟨(.ofNat 8132),(.int (.ofNat 8132) 612),(.str ⟨⟨[942,953]⟩⟩ 613)⟩,⟨(.ofNat 8134),(.int (.ofNat 8134) 615),(.str ⟨⟨[951,834]⟩⟩ 616)⟩,⟨(.ofNat 8135),(.int (.ofNat 8135) 618),(.str ⟨⟨[951,834,953]⟩⟩ 619)⟩,⟨(.ofNat 8140),(.int (.ofNat 8140) 621),(.str ⟨⟨[951,953]⟩⟩ 622)⟩,⟨(.ofNat 8146),(.int (.ofNat 8146) 624),(.str ⟨⟨[953,776,768]⟩⟩ 625)⟩,⟨(.ofNat 8147),(.int (.ofNat 8147) 627),(.str ⟨⟨[953,776,769]⟩⟩ 628)⟩,⟨(.ofNat 8150),(.int (.ofNat 8150) 630),(.str ⟨⟨[953,834]⟩⟩ 631)⟩,⟨(.ofNat 8151),(.int (.ofNat 8151) 633),(.str ⟨⟨[953,776,834]⟩⟩ 634)⟩,⟨(.ofNat 8162),(.int (.ofNat 8162) 636),(.str ⟨⟨[965,776,768]⟩⟩ 637)⟩,⟨(.ofNat 8163),(.int (.ofNat 8163) 639),(.str ⟨⟨[965,776,769]⟩⟩ 640)⟩,⟨(.ofNat 8164),(.int (.ofNat 8164) 642),(.str ⟨⟨[961,787]⟩⟩ 643)⟩,⟨(.ofNat 8166),(.int (.ofNat 8166) 645),(.str ⟨⟨[965,834]⟩⟩ 646)⟩,⟨(.ofNat 8167),(.int (.ofNat 8167) 648),(.str ⟨⟨[965,776,834]⟩⟩ 649)⟩,⟨(.ofNat 8178),(.int (.ofNat 8178) 651),(.str ⟨⟨[8060,953]⟩⟩ 652)⟩,⟨(.ofNat 8179),(.int (.ofNat 8179) 654),(.str ⟨⟨[969,953]⟩⟩ 655)⟩,⟨(.ofNat 8180),(.int (.ofNat 8180) 657),(.str ⟨⟨[974,953]⟩⟩ 658)⟩,⟨(.ofNat 8182),(.int (.ofNat 8182) 660),(.str ⟨⟨[969,834]⟩⟩ 661)⟩,⟨(.ofNat 8183),(.int (.ofNat 8183) 663),(.str ⟨⟨[969,834,953]⟩⟩ 664)⟩,⟨(.ofNat 8188),(.int (.ofNat 8188) 666),(.str ⟨⟨[969,953]⟩⟩ 667)⟩,⟨(.ofNat 8360),(.int (.ofNat 8360) 669),(.str ⟨⟨[114,115]⟩⟩ 670)⟩,⟨(.ofNat 8450),(.int (.ofNat 8450) 672),(.str ⟨⟨[99]⟩⟩ 673)⟩,⟨(.ofNat 8451),(.int (.ofNat 8451) 675),(.str ⟨⟨[176,99]⟩⟩ 676)⟩,⟨(.ofNat 8455),(.int (.ofNat 8455) 678),(.str ⟨⟨[603]⟩⟩ 679)⟩,⟨(.ofNat 8457),(.int (.ofNat 8457) 681),(.str ⟨⟨[176,102]⟩⟩ 682)⟩,⟨(.ofNat 8459),(.int (.ofNat 8459) 684),(.str ⟨⟨[104]⟩⟩ 685)⟩,⟨(.ofNat 8460),(.int (.ofNat 8460) 687),(.str ⟨⟨[104]⟩⟩ 688)⟩,⟨(.ofNat 8461),(.int (.ofNat 8461) 690),(.str ⟨⟨[104]⟩⟩ 691)⟩,⟨(.ofNat 8464),(.int (.ofNat 8464) 693),(.str ⟨⟨[105]⟩⟩ 694)⟩,⟨(.ofNat 8465),(.int (.ofNat 8465) 696),(.str ⟨⟨[105]⟩⟩ 697)⟩,⟨(.ofNat 8466),(.int (.ofNat 8466) 699),(.str ⟨⟨[108]⟩⟩ 700)⟩,⟨(.ofNat 8469),(.int (.ofNat 8469) 702),(.str ⟨⟨[110]⟩⟩ 703)⟩,⟨(.ofNat 8470),(.int (.ofNat 8470) 705),(.str ⟨⟨[110,111]⟩⟩ 706)⟩,⟨(.ofNat 8473),(.int (.ofNat 8473) 708),(.str ⟨⟨[112]⟩⟩ 709)⟩,⟨(.ofNat 8474),(.int (.ofNat 8474) 711),(.str ⟨⟨[113]⟩⟩ 712)⟩,⟨(.ofNat 8475),(.int (.ofNat 8475) 714),(.str ⟨⟨[114]⟩⟩ 715)⟩,⟨(.ofNat 8476),(.int (.ofNat 8476) 717),(.str ⟨⟨[114]⟩⟩ 718)⟩,⟨(.ofNat 8477),(.int (.ofNat 8477) 720),(.str ⟨⟨[114]⟩⟩ 721)⟩,⟨(.ofNat 8480),(.int (.ofNat 8480) 723),(.str ⟨⟨[115,109]⟩⟩ 724)⟩,⟨(.ofNat 8481),(.int (.ofNat 8481) 726),(.str ⟨⟨[116,101,108]⟩⟩ 727)⟩,⟨(.ofNat 8482),(.int (.ofNat 8482) 729),(.str ⟨⟨[116,109]⟩⟩ 730)⟩,⟨(.ofNat 8484),(.int (.ofNat 8484) 732),(.str ⟨⟨[122]⟩⟩ 733)⟩,⟨(.ofNat 8488),(.int (.ofNat 8488) 735),(.str ⟨⟨[122]⟩⟩ 736)⟩,⟨(.ofNat 8492),(.int (.ofNat 8492) 738),(.str ⟨⟨[98]⟩⟩ 739)⟩,⟨(.ofNat 8493),(.int (.ofNat 8493) 741),(.str ⟨⟨[99]⟩⟩ 742)⟩,⟨(.ofNat 8496),(.int (.ofNat 8496) 744),(.str ⟨⟨[101]⟩⟩ 745)⟩,⟨(.ofNat 8497),(.int (.ofNat 8497) 747),(.str ⟨⟨[102]⟩⟩ 748)⟩,⟨(.ofNat 8499),(.int (.ofNat 8499) 750),(.str ⟨⟨[109]⟩⟩ 751)⟩,⟨(.ofNat 8510),(.int (.ofNat 8510) 753),(.str ⟨⟨[947]⟩⟩ 754)⟩,⟨(.ofNat 8511),(.int (.ofNat 8511) 756),(.str ⟨⟨[960]⟩⟩ 757)⟩,⟨(.ofNat 8517),(.int (.ofNat 8517) 759),(.str ⟨⟨[100]⟩⟩ 760)⟩,⟨(.ofNat 13169),(.int (.ofNat 13169) 762),(.str ⟨⟨[104,112,97]⟩⟩ 763)⟩,⟨(.ofNat 13171),(.int (.ofNat 13171) 765),(.str ⟨⟨[97,117]⟩⟩ 766)⟩,⟨(.ofNat 13173),(.int (.ofNat 13173) 768),(.str ⟨⟨[111,118]⟩⟩ 769)⟩,⟨(.ofNat 13184),(.int (.ofNat 13184) 771),(.str ⟨⟨[112,97]⟩⟩ 772)⟩,⟨(.ofNat 13185),(.int (.ofNat 13185) 774),(.str ⟨⟨[110,97]⟩⟩ 775)⟩,⟨(.ofNat 13186),(.int (.ofNat 13186) 777),(.str ⟨⟨[956,97]⟩⟩ 778)⟩,⟨(.ofNat 13187),(.int (.ofNat 13187) 780),(.str ⟨⟨[109,97]⟩⟩ 781)⟩,⟨(.ofNat 13188),(.int (.ofNat 13188) 783),(.str ⟨⟨[107,97]⟩⟩ 784)⟩,⟨(.ofNat 13189),(.int (.ofNat 13189) 786),(.str ⟨⟨[107,98]⟩⟩ 787)⟩,⟨(.ofNat 13190),(.int (.ofNat 13190) 789),(.str ⟨⟨[109,98]⟩⟩ 790)⟩,⟨(.ofNat 13191),(.int (.ofNat 13191) 792),(.str ⟨⟨[103,98]⟩⟩ 793)⟩,⟨(.ofNat 13194),(.int (.ofNat 13194) 795),(.str ⟨⟨[112,102]⟩⟩ 796)⟩,⟨(.ofNat 13195),(.int (.ofNat 13195) 798),(.str ⟨⟨[110,102]⟩⟩ 799)⟩,⟨(.ofNat 13196),(.int (.ofNat 13196) 801),(.str ⟨⟨[956,102]⟩⟩ 802)⟩,⟨(.ofNat 13200),(.int (.ofNat 13200) 804),(.str ⟨⟨[104,122]⟩⟩ 805)⟩,⟨(.ofNat 13201),(.int (.ofNat 13201) 807),(.str ⟨⟨[107,104,122]⟩⟩ 808)⟩,⟨(.ofNat 13202),(.int (.ofNat 13202) 810),(.str ⟨⟨[109,104,122]⟩⟩ 811)⟩,⟨(.ofNat 13203),(.int (.ofNat 13203) 813),(.str ⟨⟨[103,104,122]⟩⟩ 814)⟩,⟨(.ofNat 13204),(.int (.ofNat 13204) 816),(.str ⟨⟨[116,104,122]⟩⟩ 817)⟩,⟨(.ofNat 13225),(.int (.ofNat 13225) 819),(.str ⟨⟨[112,97]⟩⟩ 820)⟩,⟨(.ofNat 13226),(.int (.ofNat 13226) 822),(.str ⟨⟨[107,112,97]⟩⟩ 823)⟩,⟨(.ofNat 13227),(.int (.ofNat 13227) 825),(.str ⟨⟨[109,112,97]⟩⟩ 826)⟩,⟨(.ofNat 13228),(.int (.ofNat 13228) 828),(.str ⟨⟨[103,112,97]⟩⟩ 829)⟩,⟨(.ofNat 13236),(.int (.ofNat 13236) 831),(.str ⟨⟨[112,118]⟩⟩ 832)⟩,⟨(.ofNat 13237),(.int (.ofNat 13237) 834),(.str ⟨⟨[110,118]⟩⟩ 835)⟩,⟨(.ofNat 13238),(.int (.ofNat 13238) 837),(.str ⟨⟨[956,118]⟩⟩ 838)⟩,⟨(.ofNat 13239),(.int (.ofNat 13239) 840),(.str ⟨⟨[109,118]⟩⟩ 841)⟩,⟨(.ofNat 13240),(.int (.ofNat 13240) 843),(.str ⟨⟨[107,118]⟩⟩ 844)⟩,⟨(.ofNat 13241),(.int (.ofNat 13241) 846),(.str ⟨⟨[109,118]⟩⟩ 847)⟩,⟨(.ofNat 13242),(.int (.ofNat 13242) 849),(.str ⟨⟨[112,119]⟩⟩ 850)⟩,⟨(.ofNat 13243),(.int (.ofNat 13243) 852),(.str ⟨⟨[110,119]⟩⟩ 853)⟩,⟨(.ofNat 13244),(.int (.ofNat 13244) 855),(.str ⟨⟨[956,119]⟩⟩ 856)⟩,⟨(.ofNat 13245),(.int (.ofNat 13245) 858),(.str ⟨⟨[109,119]⟩⟩ 859)⟩,⟨(.ofNat 13246),(.int (.ofNat 13246) 861),(.str ⟨⟨[107,119]⟩⟩ 862)⟩,⟨(.ofNat 13247),(.int (.ofNat 13247) 864),(.str ⟨⟨[109,119]⟩⟩ 865)⟩,⟨(.ofNat 13248),(.int (.ofNat 13248) 867),(.str ⟨⟨[107,969]⟩⟩ 868)⟩,⟨(.ofNat 13249),(.int (.ofNat 13249) 870),(.str ⟨⟨[109,969]⟩⟩ 871)⟩,⟨(.ofNat 13251),(.int (.ofNat 13251) 873),(.str ⟨⟨[98,113]⟩⟩ 874)⟩,⟨(.ofNat 13254),(.int (.ofNat 13254) 876),(.str ⟨⟨[99,8725,107,103]⟩⟩ 877)⟩,⟨(.ofNat 13255),(.int (.ofNat 13255) 879),(.str ⟨⟨[99,111,46]⟩⟩ 880)⟩,⟨(.ofNat 13256),(.int (.ofNat 13256) 882),(.str ⟨⟨[100,98]⟩⟩ 883)⟩,⟨(.ofNat 13257),(.int (.ofNat 13257) 885),(.str ⟨⟨[103,121]⟩⟩ 886)⟩,⟨(.ofNat 13259),(.int (.ofNat 13259) 888),(.str ⟨⟨[104,112]⟩⟩ 889)⟩,⟨(.ofNat 13261),(.int (.ofNat 13261) 891),(.str ⟨⟨[107,107]⟩⟩ 892)⟩,⟨(.ofNat 13262),(.int (.ofNat 13262) 894),(.str ⟨⟨[107,109]⟩⟩ 895)⟩,⟨(.ofNat 13271),(.int (.ofNat 13271) 897),(.str ⟨⟨[112,104]⟩⟩ 898)⟩,⟨(.ofNat 13273),(.int (.ofNat 13273) 900),(.str ⟨⟨[112,112,109]⟩⟩ 901)⟩,⟨(.ofNat 13274),(.int (.ofNat 13274) 903),(.str ⟨⟨[112,114]⟩⟩ 904)⟩,⟨(.ofNat 13276),(.int (.ofNat 13276) 906),(.str ⟨⟨[115,118]⟩⟩ 907)⟩,⟨(.ofNat 13277),(.int (.ofNat 13277) 909),(.str ⟨⟨[119,98]⟩⟩ 910)⟩,⟨(.ofNat 64256),(.int (.ofNat 64256) 912),(.str ⟨⟨[102,102]⟩⟩ 913)⟩,⟨(.ofNat 64257),(.int (.ofNat 64257) 915),(.str ⟨⟨[102,105]⟩⟩ 916)⟩,⟨(.ofNat 64258),(.int (.ofNat 64258) 918),(.str ⟨⟨[102,108]⟩⟩ 919)⟩,⟨(.ofNat 64259),(.int (.ofNat 64259) 921),(.str ⟨⟨[102,102,105]⟩⟩ 922)⟩,⟨(.ofNat 64260),(.int (.ofNat 64260) 924),(.str ⟨⟨[102,102,108]⟩⟩ 925)⟩,⟨(.ofNat 64261),(.int (.ofNat 64261) 927),(.str ⟨⟨[115,116]⟩⟩ 928)⟩,⟨(.ofNat 64262),(.int (.ofNat 64262) 930),(.str ⟨⟨[115,116]⟩⟩ 931)⟩,⟨(.ofNat 64275),(.int (.ofNat 64275) 933),(.str ⟨⟨[1396,1398]⟩⟩ 934)⟩,⟨(.ofNat 64276),(.int (.ofNat 64276) 936),(.str ⟨⟨[1396,1381]⟩⟩ 937)⟩,⟨(.ofNat 64277),(.int (.ofNat 64277) 939),(.str ⟨⟨[1396,1387]⟩⟩ 940)⟩,⟨(.ofNat 64278),(.int (.ofNat 64278) 942),(.str ⟨⟨[1406,1398]⟩⟩ 943)⟩,⟨(.ofNat 64279),(.int (.ofNat 64279) 945),(.str ⟨⟨[1396,1389]⟩⟩ 946)⟩,⟨(.ofNat 119808),(.int (.ofNat 119808) 948),(.str ⟨⟨[97]⟩⟩ 949)⟩,⟨(.ofNat 119809),(.int (.ofNat 119809) 951),(.str ⟨⟨[98]⟩⟩ 952)⟩,⟨(.ofNat 119810),(.int (.ofNat 119810) 954),(.str ⟨⟨[99]⟩⟩ 955)⟩,⟨(.ofNat 119811),(.int (.ofNat 119811) 957),(.str ⟨⟨[100]⟩⟩ 958)⟩,⟨(.ofNat 119812),(.int (.ofNat 119812) 960),(.str ⟨⟨[101]⟩⟩ 961)⟩,⟨(.ofNat 119813),(.int (.ofNat 119813) 963),(.str ⟨⟨[102]⟩⟩ 964)⟩,⟨(.ofNat 119814),(.int (.ofNat 119814) 966),(.str ⟨⟨[103]⟩⟩ 967)⟩,⟨(.ofNat 119815),(.int (.ofNat 119815) 969),(.str ⟨⟨[104]⟩⟩ 970)⟩,⟨(.ofNat 119816),(.int (.ofNat 119816) 972),(.str ⟨⟨[105]⟩⟩ 973)⟩,⟨(.ofNat 119817),(.int (.ofNat 119817) 975),(.str ⟨⟨[106]⟩⟩ 976)⟩,⟨(.ofNat 119818),(.int (.ofNat 119818) 978),(.str ⟨⟨[107]⟩⟩ 979)⟩,⟨(.ofNat 119819),(.int (.ofNat 119819) 981),(.str ⟨⟨[108]⟩⟩ 982)⟩,⟨(.ofNat 119820),(.int (.ofNat 119820) 984),(.str ⟨⟨[109]⟩⟩ 985)⟩,⟨(.ofNat 119821),(.int (.ofNat 119821) 987),(.str ⟨⟨[110]⟩⟩ 988)⟩,⟨(.ofNat 119822),(.int (.ofNat 119822) 990),(.str ⟨⟨[111]⟩⟩ 991)⟩,⟨(.ofNat 119823),(.int (.ofNat 119823) 993),(.str ⟨⟨[112]⟩⟩ 994)⟩,⟨(.ofNat 119824),(.int (.ofNat 119824) 996),(.str ⟨⟨[113]⟩⟩ 997)⟩,⟨(.ofNat 119825),(.int (.ofNat 119825) 999),(.str ⟨⟨[114]⟩⟩ 1000)⟩,⟨(.ofNat 119826),(.int (.ofNat 119826) 1002),(.str ⟨⟨[115]⟩⟩ 1003)⟩,⟨(.ofNat 119827),(.int (.ofNat 119827) 1005),(.str ⟨⟨[116]⟩⟩ 1006)⟩,⟨(.ofNat 119828),(.int (.ofNat 119828) 1008),(.str ⟨⟨[117]⟩⟩ 1009)⟩,⟨(.ofNat 119829),(.int (.ofNat 119829) 1011),(.str ⟨⟨[118]⟩⟩ 1012)⟩,⟨(.ofNat 119830),(.int (.ofNat 119830) 1014),(.str ⟨⟨[119]⟩⟩ 1015)⟩,⟨(.ofNat 119831),(.int (.ofNat 119831) 1017),(.str ⟨⟨[120]⟩⟩ 1018)⟩,⟨(.ofNat 119832),(.int (.ofNat 119832) 1020),(.str ⟨⟨[121]⟩⟩ 1021)⟩,⟨(.ofNat 119833),(.int (.ofNat 119833) 1023),(.str ⟨⟨[122]⟩⟩ 1024)⟩,⟨(.ofNat 119860),(.int (.ofNat 119860) 1026),(.str ⟨⟨[97]⟩⟩ 1027)⟩,⟨(.ofNat 119861),(.int (.ofNat 119861) 1029),(.str ⟨⟨[98]⟩⟩ 1030)⟩,⟨(.ofNat 119862),(.int (.ofNat 119862) 1032),(.str ⟨⟨[99]⟩⟩ 1033)⟩,⟨(.ofNat 119863),(.int (.ofNat 119863) 1035),(.str ⟨⟨[100]⟩⟩ 1036)⟩,⟨(.ofNat 119864),(.int (.ofNat 119864) 1038),(.str ⟨⟨[101]⟩⟩ 1039)⟩,⟨(.ofNat 119865),(.int (.ofNat 119865) 1041),(.str ⟨⟨[102]⟩⟩ 1042)⟩,⟨(.ofNat 119866),(.int (.ofNat 119866) 1044),(.str ⟨⟨[103]⟩⟩ 1045)⟩,⟨(.ofNat 119867),(.int (.ofNat 119867) 1047),(.str ⟨⟨[104]⟩⟩ 1048)⟩,⟨(.ofNat 119868),(.int (.ofNat 119868) 1050),(.str ⟨⟨[105]⟩⟩ 1051)⟩,⟨(.ofNat 119869),(.int (.ofNat 119869) 1053),(.str ⟨⟨[106]⟩⟩ 1054)⟩,⟨(.ofNat 119870),(.int (.ofNat 119870) 1056),(.str ⟨⟨[107]⟩⟩ 1057)⟩,⟨(.ofNat 119871),(.int (.ofNat 119871) 1059),(.str ⟨⟨[108]⟩⟩ 1060)⟩,⟨(.ofNat 119872),(.int (.ofNat 119872) 1062),(.str ⟨⟨[109]⟩⟩ 1063)⟩,⟨(.ofNat 119873),(.int (.ofNat 119873) 1065),(.str ⟨⟨[110]⟩⟩ 1066)⟩,⟨(.ofNat 119874),(.int (.ofNat 119874) 1068),(.str ⟨⟨[111]⟩⟩ 1069)⟩,⟨(.ofNat 119875),(.int (.ofNat 119875) 1071),(.str ⟨⟨[112]⟩⟩ 1072)⟩,⟨(.ofNat 119876),(.int (.ofNat 119876) 1074),(.str ⟨⟨[113]⟩⟩ 1075)⟩,⟨(.ofNat 119877),(.int (.ofNat 119877) 1077),(.str ⟨⟨[114]⟩⟩ 1078)⟩,⟨(.ofNat 119878),(.int (.ofNat 119878) 1080),(.str ⟨⟨[115]⟩⟩ 1081)⟩,⟨(.ofNat 119879),(.int (.ofNat 119879) 1083),(.str ⟨⟨[116]⟩⟩ 1084)⟩,⟨(.ofNat 119880),(.int (.ofNat 119880) 1086),(.str ⟨⟨[117]⟩⟩ 1087)⟩,⟨(.ofNat 119881),(.int (.ofNat 119881) 1089),(.str ⟨⟨[118]⟩⟩ 1090)⟩,⟨(.ofNat 119882),(.int (.ofNat 119882) 1092),(.str ⟨⟨[119]⟩⟩ 1093)⟩,⟨(.ofNat 119883),(.int (.ofNat 119883) 1095),(.str ⟨⟨[120]⟩⟩ 1096)⟩,⟨(.ofNat 119884),(.int (.ofNat 119884) 1098),(.str ⟨⟨[121]⟩⟩ 1099)⟩,⟨(.ofNat 119885),(.int (.ofNat 119885) 1101),(.str ⟨⟨[122]⟩⟩ 1102)⟩,⟨(.ofNat 119912),(.int (.ofNat 119912) 1104),(.str ⟨⟨[97]⟩⟩ 1105)⟩,⟨(.ofNat 119913),(.int (.ofNat 119913) 1107),(.str ⟨⟨[98]⟩⟩ 1108)⟩,⟨(.ofNat 119914),(.int (.ofNat 119914) 1110),(.str ⟨⟨[99]⟩⟩ 1111)⟩,⟨(.ofNat 119915),(.int (.ofNat 119915) 1113),(.str ⟨⟨[100]⟩⟩ 1114)⟩,⟨(.ofNat 119916),(.int (.ofNat 119916) 1116),(.str ⟨⟨[101]⟩⟩ 1117)⟩,⟨(.ofNat 119917),(.int (.ofNat 119917) 1119),(.str ⟨⟨[102]⟩⟩ 1120)⟩,⟨(.ofNat 119918),(.int (.ofNat 119918) 1122),(.str ⟨⟨[103]⟩⟩ 1123)⟩,⟨(.ofNat 119919),(.int (.ofNat 119919) 1125),(.str ⟨⟨[104]⟩⟩ 1126)⟩,⟨(.ofNat 119920),(.int (.ofNat 119920) 1128),(.str ⟨⟨[105]⟩⟩ 1129)⟩,⟨(.ofNat 119921),(.int (.ofNat 119921) 1131),(.str ⟨⟨[106]⟩⟩ 1132)⟩,⟨(.ofNat 119922),(.int (.ofNat 119922) 1134),(.str ⟨⟨[107]⟩⟩ 1135)⟩,⟨(.ofNat 119923),(.int (.ofNat 119923) 1137),(.str ⟨⟨[108]⟩⟩ 1138)⟩,⟨(.ofNat 119924),(.int (.ofNat 119924) 1140),(.str ⟨⟨[109]⟩⟩ 1141)⟩,⟨(.ofNat 119925),(.int (.ofNat 119925) 1143),(.str ⟨⟨[110]⟩⟩ 1144)⟩,⟨(.ofNat 119926),(.int (.ofNat 119926) 1146),(.str ⟨⟨[111]⟩⟩ 1147)⟩,⟨(.ofNat 119927),(.int (.ofNat 119927) 1149),(.str ⟨⟨[112]⟩⟩ 1150)⟩,⟨(.ofNat 119928),(.int (.ofNat 119928) 1152),(.str ⟨⟨[113]⟩⟩ 1153)⟩,⟨(.ofNat 119929),(.int (.ofNat 119929) 1155),(.str ⟨⟨[114]⟩⟩ 1156)⟩,⟨(.ofNat 119930),(.int (.ofNat 119930) 1158),(.str ⟨⟨[115]⟩⟩ 1159)⟩,⟨(.ofNat 119931),(.int (.ofNat 119931) 1161),(.str ⟨⟨[116]⟩⟩ 1162)⟩,⟨(.ofNat 119932),(.int (.ofNat 119932) 1164),(.str ⟨⟨[117]⟩⟩ 1165)⟩,⟨(.ofNat 119933),(.int (.ofNat 119933) 1167),(.str ⟨⟨[118]⟩⟩ 1168)⟩,⟨(.ofNat 119934),(.int (.ofNat 119934) 1170),(.str ⟨⟨[119]⟩⟩ 1171)⟩,⟨(.ofNat 119935),(.int (.ofNat 119935) 1173),(.str ⟨⟨[120]⟩⟩ 1174)⟩,⟨(.ofNat 119936),(.int (.ofNat 119936) 1176),(.str ⟨⟨[121]⟩⟩ 1177)⟩,⟨(.ofNat 119937),(.int (.ofNat 119937) 1179),(.str ⟨⟨[122]⟩⟩ 1180)⟩,⟨(.ofNat 119964),(.int (.ofNat 119964) 1182),(.str ⟨⟨[97]⟩⟩ 1183)⟩,⟨(.ofNat 119966),(.int (.ofNat 119966) 1185),(.str ⟨⟨[99]⟩⟩ 1186)⟩,⟨(.ofNat 119967),(.int (.ofNat 119967) 1188),(.str ⟨⟨[100]⟩⟩ 1189)⟩,⟨(.ofNat 119970),(.int (.ofNat 119970) 1191),(.str ⟨⟨[103]⟩⟩ 1192)⟩,⟨(.ofNat 119973),(.int (.ofNat 119973) 1194),(.str ⟨⟨[106]⟩⟩ 1195)⟩,⟨(.ofNat 119974),(.int (.ofNat 119974) 1197),(.str ⟨⟨[107]⟩⟩ 1198)⟩,⟨(.ofNat 119977),(.int (.ofNat 119977) 1200),(.str ⟨⟨[110]⟩⟩ 1201)⟩,⟨(.ofNat 119978),(.int (.ofNat 119978) 1203),(.str ⟨⟨[111]⟩⟩ 1204)⟩,⟨(.ofNat 119979),(.int (.ofNat 119979) 1206),(.str ⟨⟨[112]⟩⟩ 1207)⟩,⟨(.ofNat 119980),(.int (.ofNat 119980) 1209),(.str ⟨⟨[113]⟩⟩ 1210)⟩,⟨(.ofNat 119982),(.int (.ofNat 119982) 1212),(.str ⟨⟨[115]⟩⟩ 1213)⟩,⟨(.ofNat 119983),(.int (.ofNat 119983) 1215),(.str ⟨⟨[116]⟩⟩ 1216)⟩,⟨(.ofNat 119984),(.int (.ofNat 119984) 1218),(.str ⟨⟨[117]⟩⟩ 1219)⟩,⟨(.ofNat 119985),(.int (.ofNat 119985) 1221),(.str ⟨⟨[118]⟩⟩ 1222)⟩,⟨(.ofNat 119986),(.int (.ofNat 119986) 1224),(.str ⟨⟨[119]⟩⟩ 1225)⟩,⟨(.ofNat 119987),(.int (.ofNat 119987) 1227),(.str ⟨⟨[120]⟩⟩ 1228)⟩,⟨(.ofNat 119988),(.int (.ofNat 119988) 1230),(.str ⟨⟨[121]⟩⟩ 1231)⟩,⟨(.ofNat 119989),(.int (.ofNat 119989) 1233),(.str ⟨⟨[122]⟩⟩ 1234)⟩,⟨(.ofNat 120016),(.int (.ofNat 120016) 1236),(.str ⟨⟨[97]⟩⟩ 1237)⟩,⟨(.ofNat 120017),(.int (.ofNat 120017) 1239),(.str ⟨⟨[98]⟩⟩ 1240)⟩,⟨(.ofNat 120018),(.int (.ofNat 120018) 1242),(.str ⟨⟨[99]⟩⟩ 1243)⟩,⟨(.ofNat 120019),(.int (.ofNat 120019) 1245),(.str ⟨⟨[100]⟩⟩ 1246)⟩,⟨(.ofNat 120020),(.int (.ofNat 120020) 1248),(.str ⟨⟨[101]⟩⟩ 1249)⟩,⟨(.ofNat 120021),(.int (.ofNat 120021) 1251),(.str ⟨⟨[102]⟩⟩ 1252)⟩,⟨(.ofNat 120022),(.int (.ofNat 120022) 1254),(.str ⟨⟨[103]⟩⟩ 1255)⟩,⟨(.ofNat 120023),(.int (.ofNat 120023) 1257),(.str ⟨⟨[104]⟩⟩ 1258)⟩,⟨(.ofNat 120024),(.int (.ofNat 120024) 1260),(.str ⟨⟨[105]⟩⟩ 1261)⟩,⟨(.ofNat 120025),(.int (.ofNat 120025) 1263),(.str ⟨⟨[106]⟩⟩ 1264)⟩,⟨(.ofNat 120026),(.int (.ofNat 120026) 1266),(.str ⟨⟨[107]⟩⟩ 1267)⟩,⟨(.ofNat 120027),(.int (.ofNat 120027) 1269),(.str ⟨⟨[108]⟩⟩ 1270)⟩,⟨(.ofNat 120028),(.int (.ofNat 120028) 1272),(.str ⟨⟨[109]⟩⟩ 1273)⟩,⟨(.ofNat 120029),(.int (.ofNat 120029) 1275),(.str ⟨⟨[110]⟩⟩ 1276)⟩,⟨(.ofNat 120030),(.int (.ofNat 120030) 1278),(.str ⟨⟨[111]⟩⟩ 1279)⟩,⟨(.ofNat 120031),(.int (.ofNat 120031) 1281),(.str ⟨⟨[112]⟩⟩ 1282)⟩,⟨(.ofNat 120032),(.int (.ofNat 120032) 1284),(.str ⟨⟨[113]⟩⟩ 1285)⟩,⟨(.ofNat 120033),(.int (.ofNat 120033) 1287),(.str ⟨⟨[114]⟩⟩ 1288)⟩,⟨(.ofNat 120034),(.int (.ofNat 120034) 1290),(.str ⟨⟨[115]⟩⟩ 1291)⟩,⟨(.ofNat 120035),(.int (.ofNat 120035) 1293),(.str ⟨⟨[116]⟩⟩ 1294)⟩,⟨(.ofNat 120036),(.int (.ofNat 120036) 1296),(.str ⟨⟨[117]⟩⟩ 1297)⟩,⟨(.ofNat 120037),(.int (.ofNat 120037) 1299),(.str ⟨⟨[118]⟩⟩ 1300)⟩,⟨(.ofNat 120038),(.int (.ofNat 120038) 1302),(.str ⟨⟨[119]⟩⟩ 1303)⟩,⟨(.ofNat 120039),(.int (.ofNat 120039) 1305),(.str ⟨⟨[120]⟩⟩ 1306)⟩,⟨(.ofNat 120040),(.int (.ofNat 120040) 1308),(.str ⟨⟨[121]⟩⟩ 1309)⟩,⟨(.ofNat 120041),(.int (.ofNat 120041) 1311),(.str ⟨⟨[122]⟩⟩ 1312)⟩,⟨(.ofNat 120068),(.int (.ofNat 120068) 1314),(.str ⟨⟨[97]⟩⟩ 1315)⟩,⟨(.ofNat 120069),(.int (.ofNat 120069) 1317),(.str ⟨⟨[98]⟩⟩ 1318)⟩,⟨(.ofNat 120071),(.int (.ofNat 120071) 1320),(.str ⟨⟨[100]⟩⟩ 1321)⟩,⟨(.ofNat 120072),(.int (.ofNat 120072) 1323),(.str ⟨⟨[101]⟩⟩ 1324)⟩,⟨(.ofNat 120073),(.int (.ofNat 120073) 1326),(.str ⟨⟨[102]⟩⟩ 1327)⟩,⟨(.ofNat 120074),(.int (.ofNat 120074) 1329),(.str ⟨⟨[103]⟩⟩ 1330)⟩,⟨(.ofNat 120077),(.int (.ofNat 120077) 1332),(.str ⟨⟨[106]⟩⟩ 1333)⟩,⟨(.ofNat 120078),(.int (.ofNat 120078) 1335),(.str ⟨⟨[107]⟩⟩ 1336)⟩,⟨(.ofNat 120079),(.int (.ofNat 120079) 1338),(.str ⟨⟨[108]⟩⟩ 1339)⟩,⟨(.ofNat 120080),(.int (.ofNat 120080) 1341),(.str ⟨⟨[109]⟩⟩ 1342)⟩,⟨(.ofNat 120081),(.int (.ofNat 120081) 1344),(.str ⟨⟨[110]⟩⟩ 1345)⟩,⟨(.ofNat 120082),(.int (.ofNat 120082) 1347),(.str ⟨⟨[111]⟩⟩ 1348)⟩,⟨(.ofNat 120083),(.int (.ofNat 120083) 1350),(.str ⟨⟨[112]⟩⟩ 1351)⟩,⟨(.ofNat 120084),(.int (.ofNat 120084) 1353),(.str ⟨⟨[113]⟩⟩ 1354)⟩,⟨(.ofNat 120086),(.int (.ofNat 120086) 1356),(.str ⟨⟨[115]⟩⟩ 1357)⟩,⟨(.ofNat 120087),(.int (.ofNat 120087) 1359),(.str ⟨⟨[116]⟩⟩ 1360)⟩,⟨(.ofNat 120088),(.int (.ofNat 120088) 1362),(.str ⟨⟨[117]⟩⟩ 1363)⟩,⟨(.ofNat 120089),(.int (.ofNat 120089) 1365),(.str ⟨⟨[118]⟩⟩ 1366)⟩,⟨(.ofNat 120090),(.int (.ofNat 120090) 1368),(.str ⟨⟨[119]⟩⟩ 1369)⟩,⟨(.ofNat 120091),(.int (.ofNat 120091) 1371),(.str ⟨⟨[120]⟩⟩ 1372)⟩,⟨(.ofNat 120092),(.int (.ofNat 120092) 1374),(.str ⟨⟨[121]⟩⟩ 1375)⟩,⟨(.ofNat 120120),(.int (.ofNat 120120) 1377),(.str ⟨⟨[97]⟩⟩ 1378)⟩,⟨(.ofNat 120121),(.int (.ofNat 120121) 1380),(.str ⟨⟨[98]⟩⟩ 1381)⟩,⟨(.ofNat 120123),(.int (.ofNat 120123) 1383),(.str ⟨⟨[100]⟩⟩ 1384)⟩,⟨(.ofNat 120124),(.int (.ofNat 120124) 1386),(.str ⟨⟨[101]⟩⟩ 1387)⟩,⟨(.ofNat 120125),(.int (.ofNat 120125) 1389),(.str ⟨⟨[102]⟩⟩ 1390)⟩,⟨(.ofNat 120126),(.int (.ofNat 120126) 1392),(.str ⟨⟨[103]⟩⟩ 1393)⟩,⟨(.ofNat 120128),(.int (.ofNat 120128) 1395),(.str ⟨⟨[105]⟩⟩ 1396)⟩,⟨(.ofNat 120129),(.int (.ofNat 120129) 1398),(.str ⟨⟨[106]⟩⟩ 1399)⟩,⟨(.ofNat 120130),(.int (.ofNat 120130) 1401),(.str ⟨⟨[107]⟩⟩ 1402)⟩,⟨(.ofNat 120131),(.int (.ofNat 120131) 1404),(.str ⟨⟨[108]⟩⟩ 1405)⟩,⟨(.ofNat 120132),(.int (.ofNat 120132) 1407),(.str ⟨⟨[109]⟩⟩ 1408)⟩,⟨(.ofNat 120134),(.int (.ofNat 120134) 1410),(.str ⟨⟨[111]⟩⟩ 1411)⟩,⟨(.ofNat 120138),(.int (.ofNat 120138) 1413),(.str ⟨⟨[115]⟩⟩ 1414)⟩,⟨(.ofNat 120139),(.int (.ofNat 120139) 1416),(.str ⟨⟨[116]⟩⟩ 1417)⟩,⟨(.ofNat 120140),(.int (.ofNat 120140) 1419),(.str ⟨⟨[117]⟩⟩ 1420)⟩,⟨(.ofNat 120141),(.int (.ofNat 120141) 1422),(.str ⟨⟨[118]⟩⟩ 1423)⟩,⟨(.ofNat 120142),(.int (.ofNat 120142) 1425),(.str ⟨⟨[119]⟩⟩ 1426)⟩,⟨(.ofNat 120143),(.int (.ofNat 120143) 1428),(.str ⟨⟨[120]⟩⟩ 1429)⟩,⟨(.ofNat 120144),(.int (.ofNat 120144) 1431),(.str ⟨⟨[121]⟩⟩ 1432)⟩,⟨(.ofNat 120172),(.int (.ofNat 120172) 1434),(.str ⟨⟨[97]⟩⟩ 1435)⟩,⟨(.ofNat 120173),(.int (.ofNat 120173) 1437),(.str ⟨⟨[98]⟩⟩ 1438)⟩,⟨(.ofNat 120174),(.int (.ofNat 120174) 1440),(.str ⟨⟨[99]⟩⟩ 1441)⟩,⟨(.ofNat 120175),(.int (.ofNat 120175) 1443),(.str ⟨⟨[100]⟩⟩ 1444)⟩,⟨(.ofNat 120176),(.int (.ofNat 120176) 1446),(.str ⟨⟨[101]⟩⟩ 1447)⟩,⟨(.ofNat 120177),(.int (.ofNat 120177) 1449),(.str ⟨⟨[102]⟩⟩ 1450)⟩,⟨(.ofNat 120178),(.int (.ofNat 120178) 1452),(.str ⟨⟨[103]⟩⟩ 1453)⟩,⟨(.ofNat 120179),(.int (.ofNat 120179) 1455),(.str ⟨⟨[104]⟩⟩ 1456)⟩,⟨(.ofNat 120180),(.int (.ofNat 120180) 1458),(.str ⟨⟨[105]⟩⟩ 1459)⟩,⟨(.ofNat 120181),(.int (.ofNat 120181) 1461),(.str ⟨⟨[106]⟩⟩ 1462)⟩,⟨(.ofNat 120182),(.int (.ofNat 120182) 1464),(.str ⟨⟨[107]⟩⟩ 1465)⟩,⟨(.ofNat 120183),(.int (.ofNat 120183) 1467),(.str ⟨⟨[108]⟩⟩ 1468)⟩,⟨(.ofNat 120184),(.int (.ofNat 120184) 1470),(.str ⟨⟨[109]⟩⟩ 1471)⟩,⟨(.ofNat 120185),(.int (.ofNat 120185) 1473),(.str ⟨⟨[110]⟩⟩ 1474)⟩,⟨(.ofNat 120186),(.int (.ofNat 120186) 1476),(.str ⟨⟨[111]⟩⟩ 1477)⟩,⟨(.ofNat 120187),(.int (.ofNat 120187) 1479),(.str ⟨⟨[112]⟩⟩ 1480)⟩,⟨(.ofNat 120188),(.int (.ofNat 120188) 1482),(.str ⟨⟨[113]⟩⟩ 1483)⟩,⟨(.ofNat 120189),(.int (.ofNat 120189) 1485),(.str ⟨⟨[114]⟩⟩ 1486)⟩,⟨(.ofNat 120190),(.int (.ofNat 120190) 1488),(.str ⟨⟨[115]⟩⟩ 1489)⟩,⟨(.ofNat 120191),(.int (.ofNat 120191) 1491),(.str ⟨⟨[116]⟩⟩ 1492)⟩,⟨(.ofNat 120192),(.int (.ofNat 120192) 1494),(.str ⟨⟨[117]⟩⟩ 1495)⟩,⟨(.ofNat 120193),(.int (.ofNat 120193) 1497),(.str ⟨⟨[118]⟩⟩ 1498)⟩,⟨(.ofNat 120194),(.int (.ofNat 120194) 1500),(.str ⟨⟨[119]⟩⟩ 1501)⟩,⟨(.ofNat 120195),(.int (.ofNat 120195) 1503),(.str ⟨⟨[120]⟩⟩ 1504)⟩,⟨(.ofNat 120196),(.int (.ofNat 120196) 1506),(.str ⟨⟨[121]⟩⟩ 1507)⟩,⟨(.ofNat 120197),(.int (.ofNat 120197) 1509),(.str ⟨⟨[122]⟩⟩ 1510)⟩,⟨(.ofNat 120224),(.int (.ofNat 120224) 1512),(.str ⟨⟨[97]⟩⟩ 1513)⟩,⟨(.ofNat 120225),(.int (.ofNat 120225) 1515),(.str ⟨⟨[98]⟩⟩ 1516)⟩,⟨(.ofNat 120226),(.int (.ofNat 120226) 1518),(.str ⟨⟨[99]⟩⟩ 1519)⟩,⟨(.ofNat 120227),(.int (.ofNat 120227) 1521),(.str ⟨⟨[100]⟩⟩ 1522)⟩,⟨(.ofNat 120228),(.int (.ofNat 120228) 1524),(.str ⟨⟨[101]⟩⟩ 1525)⟩,⟨(.ofNat 120229),(.int (.ofNat 120229) 1527),(.str ⟨⟨[102]⟩⟩ 1528)⟩,⟨(.ofNat 120230),(.int (.ofNat 120230) 1530),(.str ⟨⟨[103]⟩⟩ 1531)⟩,⟨(.ofNat 120231),(.int (.ofNat 120231) 1533),(.str ⟨⟨[104]⟩⟩ 1534)⟩,⟨(.ofNat 120232),(.int (.ofNat 120232) 1536),(.str ⟨⟨[105]⟩⟩ 1537)⟩,⟨(.ofNat 120233),(.int (.ofNat 120233) 1539),(.str ⟨⟨[106]⟩⟩ 1540)⟩,⟨(.ofNat 120234),(.int (.ofNat 120234) 1542),(.str ⟨⟨[107]⟩⟩ 1543)⟩,⟨(.ofNat 120235),(.int (.ofNat 120235) 1545),(.str ⟨⟨[108]⟩⟩ 1546)⟩,⟨(.ofNat 120236),(.int (.ofNat 120236) 1548),(.str ⟨⟨[109]⟩⟩ 1549)⟩,⟨(.ofNat 120237),(.int (.ofNat 120237) 1551),(.str ⟨⟨[110]⟩⟩ 1552)⟩,⟨(.ofNat 120238),(.int (.ofNat 120238) 1554),(.str ⟨⟨[111]⟩⟩ 1555)⟩,⟨(.ofNat 120239),(.int (.ofNat 120239) 1557),(.str ⟨⟨[112]⟩⟩ 1558)⟩,⟨(.ofNat 120240),(.int (.ofNat 120240) 1560),(.str ⟨⟨[113]⟩⟩ 1561)⟩,⟨(.ofNat 120241),(.int (.ofNat 120241) 1563),(.str ⟨⟨[114]⟩⟩ 1564)⟩,⟨(.ofNat 120242),(.int (.ofNat 120242) 1566),(.str ⟨⟨[115]⟩⟩ 1567)⟩,⟨(.ofNat 120243),(.int (.ofNat 120243) 1569),(.str ⟨⟨[116]⟩⟩ 1570)⟩,⟨(.ofNat 120244),(.int (.ofNat 120244) 1572),(.str ⟨⟨[117]⟩⟩ 1573)⟩,⟨(.ofNat 120245),(.int (.ofNat 120245) 1575),(.str ⟨⟨[118]⟩⟩ 1576)⟩,⟨(.ofNat 120246),(.int (.ofNat 120246) 1578),(.str ⟨⟨[119]⟩⟩ 1579)⟩,⟨(.ofNat 120247),(.int (.ofNat 120247) 1581),(.str ⟨⟨[120]⟩⟩ 1582)⟩,⟨(.ofNat 120248),(.int (.ofNat 120248) 1584),(.str ⟨⟨[121]⟩⟩ 1585)⟩,⟨(.ofNat 120249),(.int (.ofNat 120249) 1587),(.str ⟨⟨[122]⟩⟩ 1588)⟩,⟨(.ofNat 120276),(.int (.ofNat 120276) 1590),(.str ⟨⟨[97]⟩⟩ 1591)⟩,⟨(.ofNat 120277),(.int (.ofNat 120277) 1593),(.str ⟨⟨[98]⟩⟩ 1594)⟩,⟨(.ofNat 120278),(.int (.ofNat 120278) 1596),(.str ⟨⟨[99]⟩⟩ 1597)⟩,⟨(.ofNat 120279),(.int (.ofNat 120279) 1599),(.str ⟨⟨[100]⟩⟩ 1600)⟩,⟨(.ofNat 120280),(.int (.ofNat 120280) 1602),(.str ⟨⟨[101]⟩⟩ 1603)⟩,⟨(.ofNat 120281),(.int (.ofNat 120281) 1605),(.str ⟨⟨[102]⟩⟩ 1606)⟩,⟨(.ofNat 120282),(.int (.ofNat 120282) 1608),(.str ⟨⟨[103]⟩⟩ 1609)⟩,⟨(.ofNat 120283),(.int (.ofNat 120283) 1611),(.str ⟨⟨[104]⟩⟩ 1612)⟩,⟨(.ofNat 120284),(.int (.ofNat 120284) 1614),(.str ⟨⟨[105]⟩⟩ 1615)⟩,⟨(.ofNat 120285),(.int (.ofNat 120285) 1617),(.str ⟨⟨[106]⟩⟩ 1618)⟩,⟨(.ofNat 120286),(.int (.ofNat 120286) 1620),(.str ⟨⟨[107]⟩⟩ 1621)⟩,⟨(.ofNat 120287),(.int (.ofNat 120287) 1623),(.str ⟨⟨[108]⟩⟩ 1624)⟩,⟨(.ofNat 120288),(.int (.ofNat 120288) 1626),(.str ⟨⟨[109]⟩⟩ 1627)⟩,⟨(.ofNat 120289),(.int (.ofNat 120289) 1629),(.str ⟨⟨[110]⟩⟩ 1630)⟩,⟨(.ofNat 120290),(.int (.ofNat 120290) 1632),(.str ⟨⟨[111]⟩⟩ 1633)⟩,⟨(.ofNat 120291),(.int (.ofNat 120291) 1635),(.str ⟨⟨[112]⟩⟩ 1636)⟩,⟨(.ofNat 120292),(.int (.ofNat 120292) 1638),(.str ⟨⟨[113]⟩⟩ 1639)⟩,⟨(.ofNat 120293),(.int (.ofNat 120293) 1641),(.str ⟨⟨[114]⟩⟩ 1642)⟩,⟨(.ofNat 120294),(.int (.ofNat 120294) 1644),(.str ⟨⟨[115]⟩⟩ 1645)⟩,⟨(.ofNat 120295),(.int (.ofNat 120295) 1647),(.str ⟨⟨[116]⟩⟩ 1648)⟩,⟨(.ofNat 120296),(.int (.ofNat 120296) 1650),(.str ⟨⟨[117]⟩⟩ 1651)⟩,⟨(.ofNat 120297),(.int (.ofNat 120297) 1653),(.str ⟨⟨[118]⟩⟩ 1654)⟩,⟨(.ofNat 120298),(.int (.ofNat 120298) 1656),(.str ⟨⟨[119]⟩⟩ 1657)⟩,⟨(.ofNat 120299),(.int (.ofNat 120299) 1659),(.str ⟨⟨[120]⟩⟩ 1660)⟩,⟨(.ofNat 120300),(.int (.ofNat 120300) 1662),(.str ⟨⟨[121]⟩⟩ 1663)⟩,⟨(.ofNat 120301),(.int (.ofNat 120301) 1665),(.str ⟨⟨[122]⟩⟩ 1666)⟩,⟨(.ofNat 120328),(.int (.ofNat 120328) 1668),(.str ⟨⟨[97]⟩⟩ 1669)⟩,⟨(.ofNat 120329),(.int (.ofNat 120329) 1671),(.str ⟨⟨[98]⟩⟩ 1672)⟩,⟨(.ofNat 120330),(.int (.ofNat 120330) 1674),(.str ⟨⟨[99]⟩⟩ 1675)⟩,⟨(.ofNat 120331),(.int (.ofNat 120331) 1677),(.str ⟨⟨[100]⟩⟩ 1678)⟩,⟨(.ofNat 120332),(.int (.ofNat 120332) 1680),(.str ⟨⟨[101]⟩⟩ 1681)⟩,⟨(.ofNat 120333),(.int (.ofNat 120333) 1683),(.str ⟨⟨[102]⟩⟩ 1684)⟩,⟨(.ofNat 120334),(.int (.ofNat 120334) 1686),(.str ⟨⟨[103]⟩⟩ 1687)⟩,⟨(.ofNat 120335),(.int (.ofNat 120335) 1689),(.str ⟨⟨[104]⟩⟩ 1690)⟩,⟨(.ofNat 120336),(.int (.ofNat 120336) 1692),(.str ⟨⟨[105]⟩⟩ 1693)⟩,⟨(.ofNat 120337),(.int (.ofNat 120337) 1695),(.str ⟨⟨[106]⟩⟩ 1696)⟩,⟨(.ofNat 120338),(.int (.ofNat 120338) 1698),(.str ⟨⟨[107]⟩⟩ 1699)⟩,⟨(.ofNat 120339),(.int (.ofNat 120339) 1701),(.str ⟨⟨[108]⟩⟩ 1702)⟩,⟨(.ofNat 120340),(.int (.ofNat 120340) 1704),(.str ⟨⟨[109]⟩⟩ 1705)⟩,⟨(.ofNat 120341),(.int (.ofNat 120341) 1707),(.str ⟨⟨[110]⟩⟩ 1708)⟩,⟨(.ofNat 120342),(.int (.ofNat 120342) 1710),(.str ⟨⟨[111]⟩⟩ 1711)⟩,⟨(.ofNat 120343),(.int (.ofNat 120343) 1713),(.str ⟨⟨[112]⟩⟩ 1714)⟩,⟨(.ofNat 120344),(.int (.ofNat 120344) 1716),(.str ⟨⟨[113]⟩⟩ 1717)⟩,⟨(.ofNat 120345),(.int (.ofNat 120345) 1719),(.str ⟨⟨[114]⟩⟩ 1720)⟩,⟨(.ofNat 120346),(.int (.ofNat 120346) 1722),(.str ⟨⟨[115]⟩⟩ 1723)⟩,⟨(.ofNat 120347),(.int (.ofNat 120347) 1725),(.str ⟨⟨[116]⟩⟩ 1726)⟩,⟨(.ofNat 120348),(.int (.ofNat 120348) 1728),(.str ⟨⟨[117]⟩⟩ 1729)⟩,⟨(.ofNat 120349),(.int (.ofNat 120349) 1731),(.str ⟨⟨[118]⟩⟩ 1732)⟩,⟨(.ofNat 120350),(.int (.ofNat 120350) 1734),(.str ⟨⟨[119]⟩⟩ 1735)⟩,⟨(.ofNat 120351),(.int (.ofNat 120351) 1737),(.str ⟨⟨[120]⟩⟩ 1738)⟩,⟨(.ofNat 120352),(.int (.ofNat 120352) 1740),(.str ⟨⟨[121]⟩⟩ 1741)⟩,⟨(.ofNat 120353),(.int (.ofNat 120353) 1743),(.str ⟨⟨[122]⟩⟩ 1744)⟩,⟨(.ofNat 120380),(.int (.ofNat 120380) 1746),(.str ⟨⟨[97]⟩⟩ 1747)⟩,⟨(.ofNat 120381),(.int (.ofNat 120381) 1749),(.str ⟨⟨[98]⟩⟩ 1750)⟩,⟨(.ofNat 120382),(.int (.ofNat 120382) 1752),(.str ⟨⟨[99]⟩⟩ 1753)⟩,⟨(.ofNat 120383),(.int (.ofNat 120383) 1755),(.str ⟨⟨[100]⟩⟩ 1756)⟩,⟨(.ofNat 120384),(.int (.ofNat 120384) 1758),(.str ⟨⟨[101]⟩⟩ 1759)⟩,⟨(.ofNat 120385),(.int (.ofNat 120385) 1761),(.str ⟨⟨[102]⟩⟩ 1762)⟩,⟨(.ofNat 120386),(.int (.ofNat 120386) 1764),(.str ⟨⟨[103]⟩⟩ 1765)⟩,⟨(.ofNat 120387),(.int (.ofNat 120387) 1767),(.str ⟨⟨[104]⟩⟩ 1768)⟩,⟨(.ofNat 120388),(.int (.ofNat 120388) 1770),(.str ⟨⟨[105]⟩⟩ 1771)⟩,⟨(.ofNat 120389),(.int (.ofNat 120389) 1773),(.str ⟨⟨[106]⟩⟩ 1774)⟩,⟨(.ofNat 120390),(.int (.ofNat 120390) 1776),(.str ⟨⟨[107]⟩⟩ 1777)⟩,⟨(.ofNat 120391),(.int (.ofNat 120391) 1779),(.str ⟨⟨[108]⟩⟩ 1780)⟩,⟨(.ofNat 120392),(.int (.ofNat 120392) 1782),(.str ⟨⟨[109]⟩⟩ 1783)⟩,⟨(.ofNat 120393),(.int (.ofNat 120393) 1785),(.str ⟨⟨[110]⟩⟩ 1786)⟩,⟨(.ofNat 120394),(.int (.ofNat 120394) 1788),(.str ⟨⟨[111]⟩⟩ 1789)⟩,⟨(.ofNat 120395),(.int (.ofNat 120395) 1791),(.str ⟨⟨[112]⟩⟩ 1792)⟩,⟨(.ofNat 120396),(.int (.ofNat 120396) 1794),(.str ⟨⟨[113]⟩⟩ 1795)⟩,⟨(.ofNat 120397),(.int (.ofNat 120397) 1797),(.str ⟨⟨[114]⟩⟩ 1798)⟩,⟨(.ofNat 120398),(.int (.ofNat 120398) 1800),(.str ⟨⟨[115]⟩⟩ 1801)⟩,⟨(.ofNat 120399),(.int (.ofNat 120399) 1803),(.str ⟨⟨[116]⟩⟩ 1804)⟩,⟨(.ofNat 120400),(.int (.ofNat 120400) 1806),(.str ⟨⟨[117]⟩⟩ 1807)⟩,⟨(.ofNat 120401),(.int (.ofNat 120401) 1809),(.str ⟨⟨[118]⟩⟩ 1810)⟩,⟨(.ofNat 120402),(.int (.ofNat 120402) 1812),(.str ⟨⟨[119]⟩⟩ 1813)⟩,⟨(.ofNat 120403),(.int (.ofNat 120403) 1815),(.str ⟨⟨[120]⟩⟩ 1816)⟩,⟨(.ofNat 120404),(.int (.ofNat 120404) 1818),(.str ⟨⟨[121]⟩⟩ 1819)⟩,⟨(.ofNat 120405),(.int (.ofNat 120405) 1821),(.str ⟨⟨[122]⟩⟩ 1822)⟩,⟨(.ofNat 120432),(.int (.ofNat 120432) 1824),(.str ⟨⟨[97]⟩⟩ 1825)⟩,⟨(.ofNat 120433),(.int (.ofNat 120433) 1827),(.str ⟨⟨[98]⟩⟩ 1828)⟩,⟨(.ofNat 120434),(.int (.ofNat 120434) 1830),(.str ⟨⟨[99]⟩⟩ 1831)⟩,⟨(.ofNat 120435),(.int (.ofNat 120435) 1833),(.str ⟨⟨[100]⟩⟩ 1834)⟩,⟨(.ofNat 120436),(.int (.ofNat 120436) 1836),(.str ⟨⟨[101]⟩⟩ 1837)⟩,⟨(.ofNat 120437),(.int (.ofNat 120437) 1839),(.str ⟨⟨[102]⟩⟩ 1840)⟩,⟨(.ofNat 120438),(.int (.ofNat 120438) 1842),(.str ⟨⟨[103]⟩⟩ 1843)⟩,⟨(.ofNat 120439),(.int (.ofNat 120439) 1845),(.str ⟨⟨[104]⟩⟩ 1846)⟩,⟨(.ofNat 120440),(.int (.ofNat 120440) 1848),(.str ⟨⟨[105]⟩⟩ 1849)⟩,⟨(.ofNat 120441),(.int (.ofNat 120441) 1851),(.str ⟨⟨[106]⟩⟩ 1852)⟩,⟨(.ofNat 120442),(.int (.ofNat 120442) 1854),(.str ⟨⟨[107]⟩⟩ 1855)⟩,⟨(.ofNat 120443),(.int (.ofNat 120443) 1857),(.str ⟨⟨[108]⟩⟩ 1858)⟩,⟨(.ofNat 120444),(.int (.ofNat 120444) 1860),(.str ⟨⟨[109]⟩⟩ 1861)⟩,⟨(.ofNat 120445),(.int (.ofNat 120445) 1863),(.str ⟨⟨[110]⟩⟩ 1864)⟩,⟨(.ofNat 120446),(.int (.ofNat 120446) 1866),(.str ⟨⟨[111]⟩⟩ 1867)⟩,⟨(.ofNat 120447),(.int (.ofNat 120447) 1869),(.str ⟨⟨[112]⟩⟩ 1870)⟩,⟨(.ofNat 120448),(.int (.ofNat 120448) 1872),(.str ⟨⟨[113]⟩⟩ 1873)⟩,⟨(.ofNat 120449),(.int (.ofNat 120449) 1875),(.str ⟨⟨[114]⟩⟩ 1876)⟩,⟨(.ofNat 120450),(.int (.ofNat 120450) 1878),(.str ⟨⟨[115]⟩⟩ 1879)⟩,⟨(.ofNat 120451),(.int (.ofNat 120451) 1881),(.str ⟨⟨[116]⟩⟩ 1882)⟩,⟨(.ofNat 120452),(.int (.ofNat 120452) 1884),(.str ⟨⟨[117]⟩⟩ 1885)⟩,⟨(.ofNat 120453),(.int (.ofNat 120453) 1887),(.str ⟨⟨[118]⟩⟩ 1888)⟩,⟨(.ofNat 120454),(.int (.ofNat 120454) 1890),(.str ⟨⟨[119]⟩⟩ 1891)⟩,⟨(.ofNat 120455),(.int (.ofNat 120455) 1893),(.str ⟨⟨[120]⟩⟩ 1894)⟩,⟨(.ofNat 120456),(.int (.ofNat 120456) 1896),(.str ⟨⟨[121]⟩⟩ 1897)⟩,⟨(.ofNat 120457),(.int (.ofNat 120457) 1899),(.str ⟨⟨[122]⟩⟩ 1900)⟩,⟨(.ofNat 120488),(.int (.ofNat 120488) 1902),(.str ⟨⟨[945]⟩⟩ 1903)⟩,⟨(.ofNat 120489),(.int (.ofNat 120489) 1905),(.str ⟨⟨[946]⟩⟩ 1906)⟩,⟨(.ofNat 120490),(.int (.ofNat 120490) 1908),(.str ⟨⟨[947]⟩⟩ 1909)⟩,⟨(.ofNat 120491),(.int (.ofNat 120491) 1911),(.str ⟨⟨[948]⟩⟩ 1912)⟩,⟨(.ofNat 120492),(.int (.ofNat 120492) 1914),(.str ⟨⟨[949]⟩⟩ 1915)⟩,⟨(.ofNat 120493),(.int (.ofNat 120493) 1917),(.str ⟨⟨[950]⟩⟩ 1918)⟩,⟨(.ofNat 120494),(.int (.ofNat 120494) 1920),(.str ⟨⟨[951]⟩⟩ 1921)⟩,⟨(.ofNat 120495),(.int (.ofNat 120495) 1923),(.str ⟨⟨[952]⟩⟩ 1924)⟩,⟨(.ofNat 120496),(.int (.ofNat 120496) 1926),(.str ⟨⟨[953]⟩⟩ 1927)⟩,⟨(.ofNat 120497),(.int (.ofNat 120497) 1929),(.str ⟨⟨[954]⟩⟩ 1930)⟩,⟨(.ofNat 120498),(.int (.ofNat 120498) 1932),(.str ⟨⟨[955]⟩⟩ 1933)⟩,⟨(.ofNat 120499),(.int (.ofNat 120499) 1935),(.str ⟨⟨[956]⟩⟩ 1936)⟩,⟨(.ofNat 120500),(.int (.ofNat 120500) 1938),(.str ⟨⟨[957]⟩⟩ 1939)⟩,⟨(.ofNat 120501),(.int (.ofNat 120501) 1941),(.str ⟨⟨[958]⟩⟩ 1942)⟩,⟨(.ofNat 120502),(.int (.ofNat 120502) 1944),(.str ⟨⟨[959]⟩⟩ 1945)⟩,⟨(.ofNat 120503),(.int (.ofNat 120503) 1947),(.str ⟨⟨[960]⟩⟩ 1948)⟩,⟨(.ofNat 120504),(.int (.ofNat 120504) 1950),(.str ⟨⟨[961]⟩⟩ 1951)⟩,⟨(.ofNat 120505),(.int (.ofNat 120505) 1953),(.str ⟨⟨[952]⟩⟩ 1954)⟩,⟨(.ofNat 120506),(.int (.ofNat 120506) 1956),(.str ⟨⟨[963]⟩⟩ 1957)⟩,⟨(.ofNat 120507),(.int (.ofNat 120507) 1959),(.str ⟨⟨[964]⟩⟩ 1960)⟩,⟨(.ofNat 120508),(.int (.ofNat 120508) 1962),(.str ⟨⟨[965]⟩⟩ 1963)⟩,⟨(.ofNat 120509),(.int (.ofNat 120509) 1965),(.str ⟨⟨[966]⟩⟩ 1966)⟩,⟨(.ofNat 120510),(.int (.ofNat 120510) 1968),(.str ⟨⟨[967]⟩⟩ 1969)⟩,⟨(.ofNat 120511),(.int (.ofNat 120511) 1971),(.str ⟨⟨[968]⟩⟩ 1972)⟩,⟨(.ofNat 120512),(.int (.ofNat 120512) 1974),(.str ⟨⟨[969]⟩⟩ 1975)⟩,⟨(.ofNat 120531),(.int (.ofNat 120531) 1977),(.str ⟨⟨[963]⟩⟩ 1978)⟩,⟨(.ofNat 120546),(.int (.ofNat 120546) 1980),(.str ⟨⟨[945]⟩⟩ 1981)⟩,⟨(.ofNat 120547),(.int (.ofNat 120547) 1983),(.str ⟨⟨[946]⟩⟩ 1984)⟩,⟨(.ofNat 120548),(.int (.ofNat 120548) 1986),(.str ⟨⟨[947]⟩⟩ 1987)⟩,⟨(.ofNat 120549),(.int (.ofNat 120549) 1989),(.str ⟨⟨[948]⟩⟩ 1990)⟩,⟨(.ofNat 120550),(.int (.ofNat 120550) 1992),(.str ⟨⟨[949]⟩⟩ 1993)⟩,⟨(.ofNat 120551),(.int (.ofNat 120551) 1995),(.str ⟨⟨[950]⟩⟩ 1996)⟩,⟨(.ofNat 120552),(.int (.ofNat 120552) 1998),(.str ⟨⟨[951]⟩⟩ 1999)⟩,⟨(.ofNat 120553),(.int (.ofNat 120553) 2001),(.str ⟨⟨[952]⟩⟩ 2002)⟩,⟨(.ofNat 120554),(.int (.ofNat 120554) 2004),(.str ⟨⟨[953]⟩⟩ 2005)⟩,⟨(.ofNat 120555),(.int (.ofNat 120555) 2007),(.str ⟨⟨[954]⟩⟩ 2008)⟩,⟨(.ofNat 120556),(.int (.ofNat 120556) 2010),(.str ⟨⟨[955]⟩⟩ 2011)⟩,⟨(.ofNat 120557),(.int (.ofNat 120557) 2013),(.str ⟨⟨[956]⟩⟩ 2014)⟩,⟨(.ofNat 120558),(.int (.ofNat 120558) 2016),(.str ⟨⟨[957]⟩⟩ 2017)⟩,⟨(.ofNat 120559),(.int (.ofNat 120559) 2019),(.str ⟨⟨[958]⟩⟩ 2020)⟩,⟨(.ofNat 120560),(.int (.ofNat 120560) 2022),(.str ⟨⟨[959]⟩⟩ 2023)⟩,⟨(.ofNat 120561),(.int (.ofNat 120561) 2025),(.str ⟨⟨[960]⟩⟩ 2026)⟩,⟨(.ofNat 120562),(.int (.ofNat 120562) 2028),(.str ⟨⟨[961]⟩⟩ 2029)⟩,⟨(.ofNat 120563),(.int (.ofNat 120563) 2031),(.str ⟨⟨[952]⟩⟩ 2032)⟩,⟨(.ofNat 120564),(.int (.ofNat 120564) 2034),(.str ⟨⟨[963]⟩⟩ 2035)⟩,⟨(.ofNat 120565),(.int (.ofNat 120565) 2037),(.str ⟨⟨[964]⟩⟩ 2038)⟩,⟨(.ofNat 120566),(.int (.ofNat 120566) 2040),(.str ⟨⟨[965]⟩⟩ 2041)⟩,⟨(.ofNat 120567),(.int (.ofNat 120567) 2043),(.str ⟨⟨[966]⟩⟩ 2044)⟩,⟨(.ofNat 120568),(.int (.ofNat 120568) 2046),(.str ⟨⟨[967]⟩⟩ 2047)⟩,⟨(.ofNat 120569),(.int (.ofNat 120569) 2049),(.str ⟨⟨[968]⟩⟩ 2050)⟩,⟨(.ofNat 120570),(.int (.ofNat 120570) 2052),(.str ⟨⟨[969]⟩⟩ 2053)⟩,⟨(.ofNat 120589),(.int (.ofNat 120589) 2055),(.str ⟨⟨[963]⟩⟩ 2056)⟩,⟨(.ofNat 120604),(.int (.ofNat 120604) 2058),(.str ⟨⟨[945]⟩⟩ 2059)⟩,⟨(.ofNat 120605),(.int (.ofNat 120605) 2061),(.str ⟨⟨[946]⟩⟩ 2062)⟩,⟨(.ofNat 120606),(.int (.ofNat 120606) 2064),(.str ⟨⟨[947]⟩⟩ 2065)⟩,⟨(.ofNat 120607),(.int (.ofNat 120607) 2067),(.str ⟨⟨[948]⟩⟩ 2068)⟩,⟨(.ofNat 120608),(.int (.ofNat 120608) 2070),(.str ⟨⟨[949]⟩⟩ 2071)⟩,⟨(.ofNat 120609),(.int (.ofNat 120609) 2073),(.str ⟨⟨[950]⟩⟩ 2074)⟩,⟨(.ofNat 120610),(.int (.ofNat 120610) 2076),(.str ⟨⟨[951]⟩⟩ 2077)⟩,⟨(.ofNat 120611),(.int (.ofNat 120611) 2079),(.str ⟨⟨[952]⟩⟩ 2080)⟩,⟨(.ofNat 120612),(.int (.ofNat 120612) 2082),(.str ⟨⟨[953]⟩⟩ 2083)⟩,⟨(.ofNat 120613),(.int (.ofNat 120613) 2085),(.str ⟨⟨[954]⟩⟩ 2086)⟩,⟨(.ofNat 120614),(.int (.ofNat 120614) 2088),(.str ⟨⟨[955]⟩⟩ 2089)⟩,⟨(.ofNat 120615),(.int (.ofNat 120615) 2091),(.str ⟨⟨[956]⟩⟩ 2092)⟩,⟨(.ofNat 120616),(.int (.ofNat 120616) 2094),(.str ⟨⟨[957]⟩⟩ 2095)⟩,⟨(.ofNat 120617),(.int (.ofNat 120617) 2097),(.str ⟨⟨[958]⟩⟩ 2098)⟩,⟨(.ofNat 120618),(.int (.ofNat 120618) 2100),(.str ⟨⟨[959]⟩⟩ 2101)⟩,⟨(.ofNat 120619),(.int (.ofNat 120619) 2103),(.str ⟨⟨[960]⟩⟩ 2104)⟩,⟨(.ofNat 120620),(.int (.ofNat 120620) 2106),(.str ⟨⟨[961]⟩⟩ 2107)⟩,⟨(.ofNat 120621),(.int (.ofNat 120621) 2109),(.str ⟨⟨[952]⟩⟩ 2110)⟩,⟨(.ofNat 120622),(.int (.ofNat 120622) 2112),(.str ⟨⟨[963]⟩⟩ 2113)⟩,⟨(.ofNat 120623),(.int (.ofNat 120623) 2115),(.str ⟨⟨[964]⟩⟩ 2116)⟩,⟨(.ofNat 120624),(.int (.ofNat 120624) 2118),(.str ⟨⟨[965]⟩⟩ 2119)⟩,⟨(.ofNat 120625),(.int (.ofNat 120625) 2121),(.str ⟨⟨[966]⟩⟩ 2122)⟩,⟨(.ofNat 120626),(.int (.ofNat 120626) 2124),(.str ⟨⟨[967]⟩⟩ 2125)⟩,⟨(.ofNat 120627),(.int (.ofNat 120627) 2127),(.str ⟨⟨[968]⟩⟩ 2128)⟩,⟨(.ofNat 120628),(.int (.ofNat 120628) 2130),(.str ⟨⟨[969]⟩⟩ 2131)⟩,⟨(.ofNat 120647),(.int (.ofNat 120647) 2133),(.str ⟨⟨[963]⟩⟩ 2134)⟩,⟨(.ofNat 120662),(.int (.ofNat 120662) 2136),(.str ⟨⟨[945]⟩⟩ 2137)⟩,⟨(.ofNat 120663),(.int (.ofNat 120663) 2139),(.str ⟨⟨[946]⟩⟩ 2140)⟩,⟨(.ofNat 120664),(.int (.ofNat 120664) 2142),(.str ⟨⟨[947]⟩⟩ 2143)⟩,⟨(.ofNat 120665),(.int (.ofNat 120665) 2145),(.str ⟨⟨[948]⟩⟩ 2146)⟩,⟨(.ofNat 120666),(.int (.ofNat 120666) 2148),(.str ⟨⟨[949]⟩⟩ 2149)⟩,⟨(.ofNat 120667),(.int (.ofNat 120667) 2151),(.str ⟨⟨[950]⟩⟩ 2152)⟩,⟨(.ofNat 120668),(.int (.ofNat 120668) 2154),(.str ⟨⟨[951]⟩⟩ 2155)⟩,⟨(.ofNat 120669),(.int (.ofNat 120669) 2157),(.str ⟨⟨[952]⟩⟩ 2158)⟩,⟨(.ofNat 120670),(.int (.ofNat 120670) 2160),(.str ⟨⟨[953]⟩⟩ 2161)⟩,⟨(.ofNat 120671),(.int (.ofNat 120671) 2163),(.str ⟨⟨[954]⟩⟩ 2164)⟩,⟨(.ofNat 120672),(.int (.ofNat 120672) 2166),(.str ⟨⟨[955]⟩⟩ 2167)⟩,⟨(.ofNat 120673),(.int (.ofNat 120673) 2169),(.str ⟨⟨[956]⟩⟩ 2170)⟩,⟨(.ofNat 120674),(.int (.ofNat 120674) 2172),(.str ⟨⟨[957]⟩⟩ 2173)⟩,⟨(.ofNat 120675),(.int (.ofNat 120675) 2175),(.str ⟨⟨[958]⟩⟩ 2176)⟩,⟨(.ofNat 120676),(.int (.ofNat 120676) 2178),(.str ⟨⟨[959]⟩⟩ 2179)⟩,⟨(.ofNat 120677),(.int (.ofNat 120677) 2181),(.str ⟨⟨[960]⟩⟩ 2182)⟩,⟨(.ofNat 120678),(.int (.ofNat 120678) 2184),(.str ⟨⟨[961]⟩⟩ 2185)⟩,⟨(.ofNat 120679),(.int (.ofNat 120679) 2187),(.str ⟨⟨[952]⟩⟩ 2188)⟩,⟨(.ofNat 120680),(.int (.ofNat 120680) 2190),(.str ⟨⟨[963]⟩⟩ 2191)⟩,⟨(.ofNat 120681),(.int (.ofNat 120681) 2193),(.str ⟨⟨[964]⟩⟩ 2194)⟩,⟨(.ofNat 120682),(.int (.ofNat 120682) 2196),(.str ⟨⟨[965]⟩⟩ 2197)⟩,⟨(.ofNat 120683),(.int (.ofNat 120683) 2199),(.str ⟨⟨[966]⟩⟩ 2200)⟩,⟨(.ofNat 120684),(.int (.ofNat 120684) 2202),(.str ⟨⟨[967]⟩⟩ 2203)⟩,⟨(.ofNat 120685),(.int (.ofNat 120685) 2205),(.str ⟨⟨[968]⟩⟩ 2206)⟩,⟨(.ofNat 120686),(.int (.ofNat 120686) 2208),(.str ⟨⟨[969]⟩⟩ 2209)⟩,⟨(.ofNat 120705),(.int (.ofNat 120705) 2211),(.str ⟨⟨[963]⟩⟩ 2212)⟩,⟨(.ofNat 120720),(.int (.ofNat 120720) 2214),(.str ⟨⟨[945]⟩⟩ 2215)⟩,⟨(.ofNat 120721),(.int (.ofNat 120721) 2217),(.str ⟨⟨[946]⟩⟩ 2218)⟩,⟨(.ofNat 120722),(.int (.ofNat 120722) 2220),(.str ⟨⟨[947]⟩⟩ 2221)⟩,⟨(.ofNat 120723),(.int (.ofNat 120723) 2223),(.str ⟨⟨[948]⟩⟩ 2224)⟩,⟨(.ofNat 120724),(.int (.ofNat 120724) 2226),(.str ⟨⟨[949]⟩⟩ 2227)⟩,⟨(.ofNat 120725),(.int (.ofNat 120725) 2229),(.str ⟨⟨[950]⟩⟩ 2230)⟩,⟨(.ofNat 120726),(.int (.ofNat 120726) 2232),(.str ⟨⟨[951]⟩⟩ 2233)⟩,⟨(.ofNat 120727),(.int (.ofNat 120727) 2235),(.str ⟨⟨[952]⟩⟩ 2236)⟩,⟨(.ofNat 120728),(.int (.ofNat 120728) 2238),(.str ⟨⟨[953]⟩⟩ 2239)⟩,⟨(.ofNat 120729),(.int (.ofNat 120729) 2241),(.str ⟨⟨[954]⟩⟩ 2242)⟩,⟨(.ofNat 120730),(.int (.ofNat 120730) 2244),(.str ⟨⟨[955]⟩⟩ 2245)⟩,⟨(.ofNat 120731),(.int (.ofNat 120731) 2247),(.str ⟨⟨[956]⟩⟩ 2248)⟩,⟨(.ofNat 120732),(.int (.ofNat 120732) 2250),(.str ⟨⟨[957]⟩⟩ 2251)⟩,⟨(.ofNat 120733),(.int (.ofNat 120733) 2253),(.str ⟨⟨[958]⟩⟩ 2254)⟩,⟨(.ofNat 120734),(.int (.ofNat 120734) 2256),(.str ⟨⟨[959]⟩⟩ 2257)⟩,⟨(.ofNat 120735),(.int (.ofNat 120735) 2259),(.str ⟨⟨[960]⟩⟩ 2260)⟩,⟨(.ofNat 120736),(.int (.ofNat 120736) 2262),(.str ⟨⟨[961]⟩⟩ 2263)⟩,⟨(.ofNat 120737),(.int (.ofNat 120737) 2265),(.str ⟨⟨[952]⟩⟩ 2266)⟩,⟨(.ofNat 120738),(.int (.ofNat 120738) 2268),(.str ⟨⟨[963]⟩⟩ 2269)⟩,⟨(.ofNat 120739),(.int (.ofNat 120739) 2271),(.str ⟨⟨[964]⟩⟩ 2272)⟩,⟨(.ofNat 120740),(.int (.ofNat 120740) 2274),(.str ⟨⟨[965]⟩⟩ 2275)⟩,⟨(.ofNat 120741),(.int (.ofNat 120741) 2277),(.str ⟨⟨[966]⟩⟩ 2278)⟩,⟨(.ofNat 120742),(.int (.ofNat 120742) 2280),(.str ⟨⟨[967]⟩⟩ 2281)⟩,⟨(.ofNat 120743),(.int (.ofNat 120743) 2282),(.str ⟨⟨[968]⟩⟩ 2283)⟩,⟨(.ofNat 120744),(.int (.ofNat 120744) 2284),(.str ⟨⟨[969]⟩⟩ 2285)⟩,⟨(.ofNat 120763),(.int (.ofNat 120763) 2286),(.str ⟨⟨[963]⟩⟩ 2287)⟩]⟩ 650),⟨[]⟩⟩
noncomputable def o97 (P : Params) : Obj := ⟨(.type "dict"),none,(.dict ⟨[⟨(.ofNat 982),(.int (.ofNat 982) 393),(.str ⟨⟨[960]⟩⟩ 394)⟩,⟨(.ofNat 1008),(.int (.ofNat 1008) 396),(.str ⟨⟨[954]⟩⟩ 397)⟩,⟨(.ofNat 1009),(.int (.ofNat 1009) 399),(.str ⟨⟨[961]⟩⟩ 400)⟩,⟨(.ofNat 1010),(.int (.ofNat 1010) 402),(.str ⟨⟨[963]⟩⟩ 403)⟩,⟨(.ofNat 1013),(.int (.ofNat 1013) 405),(.str ⟨⟨[949]⟩⟩ 406)⟩,⟨(.ofNat 1415),(.int (.ofNat 1415) 408),(.str ⟨⟨[1381,1410]⟩⟩ 409)⟩,⟨(.ofNat 7830),(.int (.ofNat 7830) 411),(.str ⟨⟨[104,817]⟩⟩ 412)⟩,⟨(.ofNat 7831),(.int (.ofNat 7831) 414),(.str ⟨⟨[116,776]⟩⟩ 415)⟩,⟨(.ofNat 7832),(.int (.ofNat 7832) 417),(.str ⟨⟨[119,778]⟩⟩ 418)⟩,⟨(.ofNat 7833),(.int (.ofNat 7833) 420),(.str ⟨⟨[121,778]⟩⟩ 421)⟩,⟨(.ofNat 7834),(.int (.ofNat 7834) 423),(.str ⟨⟨[97,702]⟩⟩ 424)⟩,⟨(.ofNat 7835),(.int (.ofNat 7835) 426),(.str ⟨⟨[7777]⟩⟩ 427)⟩,⟨(.ofNat 8016),(.int (.ofNat 8016) 429),(.str ⟨⟨[965,787]⟩⟩ 430)⟩,⟨(.ofNat 8018),(.int (.ofNat 8018) 432),(.str ⟨⟨[965,787,768]⟩⟩ 433)⟩,⟨(.ofNat 8020),(.int (.ofNat 8020) 435),(.str ⟨⟨[965,787,769]⟩⟩ 436)⟩,⟨(.ofNat 8022),(.int (.ofNat 8022) 438),(.str ⟨⟨[965,787,834]⟩⟩ 439)⟩,⟨(.ofNat 8064),(.int (.ofNat 8064) 441),(.str ⟨⟨[7936,953]⟩⟩ 442)⟩]⟩ 17),⟨[]⟩⟩
noncomputable def o98 (P : Params) : Obj := ⟨(.type "dict"),none,(.dict ⟨[⟨(.ofNat 8065),(.int (.ofNat 8065) 444),(.str ⟨⟨[7937,953]⟩⟩ 445)⟩,⟨(.ofNat 8066),(.int (.ofNat 8066) 447),(.str ⟨⟨[7938,953]⟩⟩ 448)⟩,⟨(.ofNat 8067),(.int (.ofNat 8067) 450),(.str ⟨⟨[7939,953]⟩⟩ 451)⟩,⟨(.ofNat 8068),(.int (.ofNat 8068) 453),(.str ⟨⟨[7940,953]⟩⟩ 454)⟩,⟨(.ofNat 8069),(.int (.ofNat 8069) 456),(.str ⟨⟨[7941,953]⟩⟩ 457)⟩,⟨(.ofNat 8070),(.int (.ofNat 8070) 459),(.str ⟨⟨[7942,953]⟩⟩ 460)⟩,⟨(.ofNat 8071),(.int (.ofNat 8071) 462),(.str ⟨⟨[7943,953]⟩⟩ 463)⟩,⟨(.ofNat 8072),(.int (.ofNat 8072) 465),(.str ⟨⟨[7936,953]⟩⟩ 466)⟩,⟨(.ofNat 8073),(.int (.ofNat 8073) 468),(.str ⟨⟨[7937,953]⟩⟩ 469)⟩,⟨(.ofNat 8074),(.int (.ofNat 8074) 471),(.str ⟨⟨[7938,953]⟩⟩ 472)⟩,⟨(.ofNat 8075),(.int (.ofNat 8075) 474),(.str ⟨⟨[7939,953]⟩⟩ 475)⟩,⟨(.ofNat 8076),(.int (.ofNat 8076) 477),(.str ⟨⟨[7940,953]⟩⟩ 478)⟩,⟨(.ofNat 8077),(.int (.ofNat 8077) 480),(.str ⟨⟨[7941,953]⟩⟩ 481)⟩,⟨(.ofNat 8078),(.int (.ofNat 8078) 483),(.str ⟨⟨[7942,953]⟩⟩ 484)⟩,⟨(.ofNat 8079),(.int (.ofNat 8079) 486),(.str ⟨⟨[7943,953]⟩⟩ 487)⟩,⟨(.ofNat 8080),(.int (.ofNat 8080) 489),(.str ⟨⟨[7968,953]⟩⟩ 490)⟩,⟨(.ofNat 8081),(.int (.ofNat 8081) 492),(.str ⟨⟨[7969,953]⟩⟩ 493)⟩]⟩ 17),⟨[]⟩⟩
noncomputable def o99 (P : Params) : Obj := ⟨(.type "dict"),none,(.dict ⟨[⟨(.ofNat 8082),(.int (.ofNat 8082) 495),(.str ⟨⟨[7970,953]⟩⟩ 496)⟩,⟨(.ofNat 8083),(.int (.ofNat 8083) 498),(.str ⟨⟨[7971,953]⟩⟩ 499)⟩,⟨(.ofNat 8084),(.int (.ofNat 8084) 501),(.str ⟨⟨[7972,953]⟩⟩ 502)⟩,⟨(.ofNat 8085),(.int (.ofNat 8085) 504),(.str ⟨⟨[7973,953]⟩⟩ 505)⟩,⟨(.ofNat 8086),(.int (.ofNat 8086) 507),(.str ⟨⟨[7974,953]⟩⟩ 508)⟩,⟨(.ofNat 8087),(.int (.ofNat 8087) 510),(.str ⟨⟨[7975,953]⟩⟩ 511)⟩,⟨(.ofNat 8088),(.int (.ofNat 8088) 513),(.str ⟨⟨[7968,953]⟩⟩ 514)⟩,⟨(.ofNat 8089),(.int (.ofNat 8089) 516),(.str ⟨⟨[7969,953]⟩⟩ 517)⟩,⟨(.ofNat 8090),(.int (.ofNat 8090) 519),(.str ⟨⟨[7970,953]⟩⟩ 520)⟩,⟨(.ofNat 8091),(.int (.ofNat 8091) 522),(.str ⟨⟨[7971,953]⟩⟩ 523)⟩,⟨(.ofNat 8092),(.int (.ofNat 8092) 525),(.str ⟨⟨[7972,953]⟩⟩ 526)⟩,⟨(.ofNat 8093),(.int (.ofNat 8093) 528),(.str ⟨⟨[7973,953]⟩⟩ 529)⟩,⟨(.ofNat 8094),(.int (.ofNat 8094) 531),(.str ⟨⟨[7974,953]⟩⟩ 532)⟩,⟨(.ofNat 8095),(.int (.ofNat 8095) 534),(.str ⟨⟨[7975,953]⟩⟩ 535)⟩,⟨(.ofNat 8096),(.int (.ofNat 8096) 537),(.str ⟨⟨[8032,953]⟩⟩ 538)⟩,⟨(.ofNat 8097),(.int (.ofNat 8097) 540),(.str ⟨⟨[8033,953]⟩⟩ 541)⟩,⟨(.ofNat 8098),(.int (.ofNat 8098) 543),(.str ⟨⟨[8034,953]⟩⟩ 544)⟩]⟩ 17),⟨[]⟩⟩
noncomputable def o100 (P : Params) : Obj := ⟨(.type "dict"),none,(.dict ⟨[⟨(.ofNat 8099),(.int (.ofNat 8099) 546),(.str ⟨⟨[8035,953]⟩⟩ 547)⟩,⟨(.ofNat 8100),(.int (.ofNat 8100) 549),(.str ⟨⟨[8036,953]⟩⟩ 550)⟩,⟨(.ofNat 8101),(.int (.ofNat 8101) 552),(.str ⟨⟨[8037,953]⟩⟩ 553)⟩,⟨(.ofNat 8102),(.int (.ofNat 8102) 555),(.str ⟨⟨[8038,953]⟩⟩ 556)⟩,⟨(.ofNat 8103),(.int (.ofNat 8103) 558),(.str ⟨⟨[8039,953]⟩⟩ 559)⟩,⟨(.ofNat 8104),(.int (.ofNat 8104) 561),(.str ⟨⟨[8032,953]⟩⟩ 562)⟩,⟨(.ofNat 8105),(.int (.ofNat 8105) 564),(.str ⟨⟨[8033,953]⟩⟩ 565)⟩,⟨(.ofNat 8106),(.int (.ofNat 8106) 567),(.str ⟨⟨[8034,953]⟩⟩ 568)⟩,⟨(.ofNat 8107),(.int (.ofNat 8107) 570),(.str ⟨⟨[8035,953]⟩⟩ 571)⟩,⟨(.ofNat 8108),(.int (.ofNat 8108) 573),(.str ⟨⟨[8036,953]⟩⟩ 574)⟩,⟨(.ofNat 8109),(.int (.ofNat 8109) 576),(.str ⟨⟨[8037,953]⟩⟩ 577)⟩,⟨(.ofNat 8110),(.int (.ofNat 8110) 579),(.str ⟨⟨[8038,953]⟩⟩ 580)⟩,⟨(.ofNat 8111),(.int (.ofNat 8111) 582),(.str ⟨⟨[8039,953]⟩⟩ 583)⟩,⟨(.ofNat 8114),(.int (.ofNat 8114) 585),(.str ⟨⟨[8048,953]⟩⟩ 586)⟩,⟨(.ofNat 8115),(.int (.ofNat 8115) 588),(.str ⟨⟨[945,953]⟩⟩ 589)⟩,⟨(.ofNat 8116),(.int (.ofNat 8116) 591),(.str ⟨⟨[940,953]⟩⟩ 592)⟩,⟨(.ofNat 8118),(.int (.ofNat 8118) 594),(.str ⟨⟨[945,834]⟩⟩ 595)⟩]⟩ 17),⟨[]⟩⟩
noncomputable def o101 (P : Params) : Obj := ⟨(.type "dict"),none,(.dict ⟨[⟨(.ofNat 8119),(.int (.ofNat 8119) 597),(.str ⟨⟨[945,834,953]⟩⟩ 598)⟩,⟨(.ofNat 8124),(.int (.ofNat 8124) 600),(.str ⟨⟨[945,953]⟩⟩ 601)⟩,⟨(.ofNat 8126),(.int (.ofNat 8126) 603),(.str ⟨⟨[953]⟩⟩ 604)⟩,⟨(.ofNat 8130),(.int (.ofNat 8130) 606),(.str ⟨⟨[8052,953]⟩⟩ 607)⟩,⟨(.ofNat 8131),(.int (.ofNat 8131) 609),(.str ⟨⟨[951,953]⟩⟩ 610)⟩,⟨(.ofNat 8132),(.int (.ofNat 8132) 612),(.str ⟨⟨[942,953]⟩⟩ 613)⟩,⟨(.ofNat 8134),(.int (.ofNat 8134) 615),(.str ⟨⟨[951,834]⟩⟩ 616)⟩,⟨(.ofNat 8135),(.int (.ofNat 8135) 618),(.str ⟨⟨[951,834,953]⟩⟩ 619)⟩,⟨(.ofNat 8140),(.int (.ofNat 8140) 621),(.str ⟨⟨[951,953]⟩⟩ 622)⟩,⟨(.ofNat 8146),(.int (.ofNat 8146) 624),(.str ⟨⟨[953,776,768]⟩⟩ 625)⟩,⟨(.ofNat 8147),(.int (.ofNat 8147) 627),(.str ⟨⟨[953,776,769]⟩⟩ 628)⟩,⟨(.ofNat 8150),(.int (.ofNat 8150) 630),(.str ⟨⟨[953,834]⟩⟩ 631)⟩,⟨(.ofNat 8151),(.int (.ofNat 8151) 633),(.str ⟨⟨[953,776,834]⟩⟩ 634)⟩,⟨(.ofNat 8162),(.int (.ofNat 8162) 636),(.str ⟨⟨[965,776,768]⟩⟩ 637)⟩,⟨(.ofNat 8163),(.int (.ofNat 8163) 639),(.str ⟨⟨[965,776,769]⟩⟩ 640)⟩,⟨(.ofNat 8164),(.int (.ofNat 8164) 642),(.str ⟨⟨[961,787]⟩⟩ 643)⟩,⟨(.ofNat 8166),(.int (.ofNat 8166) 645),(.str ⟨⟨[965,834]⟩⟩ 646)⟩]⟩ 17),⟨[]⟩⟩
noncomputable def o102 (P : Params) : Obj := ⟨(.type "dict"),none,(.dict ⟨[⟨(.ofNat 8167),(.int (.ofNat 8167) 648),(.str ⟨⟨[965,776,834]⟩⟩ 649)⟩,⟨(.ofNat 8178),(.int (.ofNat 8178) 651),(.str ⟨⟨[8060,953]⟩⟩ 652)⟩,⟨(.ofNat 8179),(.int (.ofNat 8179) 654),(.str ⟨⟨[969,953]⟩⟩ 655)⟩,⟨(.ofNat 8180),(.int (.ofNat 8180) 657),(.str ⟨⟨[974,953]⟩⟩ 658)⟩,⟨(.ofNat 8182),(.int (.ofNat 8182) 660),(.str ⟨⟨[969,834]⟩⟩ 661)⟩,⟨(.ofNat 8183),(.int (.ofNat 8183) 663),(.str ⟨⟨[969,834,953]⟩⟩ 664)⟩,⟨(.ofNat 8188),(.int (.ofNat 8188) 666),(.str ⟨⟨[969,953]⟩⟩ 667)⟩,⟨(.ofNat 8360),(.int (.ofNat 8360) 669),(.str ⟨⟨[114,115]⟩⟩ 670)⟩,⟨(.ofNat 8450),(.int (.ofNat 8450) 672),(.str ⟨⟨[99]⟩⟩ 673)⟩,⟨(.ofNat 8451),(.int (.ofNat 8451) 675),(.str ⟨⟨[176,99]⟩⟩ 676)⟩,⟨(.ofNat 8455),(.int (.ofNat 8455) 678),(.str ⟨⟨[603]⟩⟩ 679)⟩,⟨(.ofNat 8457),(.int (.ofNat 8457) 681),(.str ⟨⟨[176,102]⟩⟩ 682)⟩,⟨(.ofNat 8459),(.int (.ofNat 8459) 684),(.str ⟨⟨[104]⟩⟩ 685)⟩,⟨(.ofNat 8460),(.int (.ofNat 8460) 687),(.str ⟨⟨[104]⟩⟩ 688)⟩,⟨(.ofNat 8461),(.int (.ofNat 8461) 690),(.str ⟨⟨[104]⟩⟩ 691)⟩,⟨(.ofNat 8464),(.int (.ofNat 8464) 693),(.str ⟨⟨[105]⟩⟩ 694)⟩,⟨(.ofNat 8465),(.int (.ofNat 8465) 696),(.str ⟨⟨[105]⟩⟩ 697)⟩]⟩ 17),⟨[]⟩⟩
noncomputable def o103 (P : Params) : Obj := ⟨(.type "dict"),none,(.dict ⟨[⟨(.ofNat 8466),(.int (.ofNat 8466) 699),(.str ⟨⟨[108]⟩⟩ 700)⟩,⟨(.ofNat 8469),(.int (.ofNat 8469) 702),(.str ⟨⟨[110]⟩⟩ 703)⟩,⟨(.ofNat 8470),(.int (.ofNat 8470) 705),(.str ⟨⟨[110,111]⟩⟩ 706)⟩,⟨(.ofNat 8473),(.int (.ofNat 8473) 708),(.str ⟨⟨[112]⟩⟩ 709)⟩,⟨(.ofNat 8474),(.int (.ofNat 8474) 711),(.str ⟨⟨[113]⟩⟩ 712)⟩,⟨(.ofNat 8475),(.int (.ofNat 8475) 714),(.str ⟨⟨[114]⟩⟩ 715)⟩,⟨(.ofNat 8476),(.int (.ofNat 8476) 717),(.str ⟨⟨[114]⟩⟩ 718)⟩,⟨(.ofNat 8477),(.int (.ofNat 8477) 720),(.str ⟨⟨[114]⟩⟩ 721)⟩,⟨(.ofNat 8480),(.int (.ofNat 8480) 723),(.str ⟨⟨[115,109]⟩⟩ 724)⟩,⟨(.ofNat 8481),(.int (.ofNat 8481) 726),(.str ⟨⟨[116,101,108]⟩⟩ 727)⟩,⟨(.ofNat 8482),(.int (.ofNat 8482) 729),(.str ⟨⟨[116,109]⟩⟩ 730)⟩,⟨(.ofNat 8484),(.int (.ofNat 8484) 732),(.str ⟨⟨[122]⟩⟩ 733)⟩,⟨(.ofNat 8488),(.int (.ofNat 8488) 735),(.str ⟨⟨[122]⟩⟩ 736)⟩,⟨(.ofNat 8492),(.int (.ofNat 8492) 738),(.str ⟨⟨[98]⟩⟩ 739)⟩,⟨(.ofNat 8493),(.int (.ofNat 8493) 741),(.str ⟨⟨[99]⟩⟩ 742)⟩,⟨(.ofNat 8496),(.int (.ofNat 8496) 744),(.str ⟨⟨[101]⟩⟩ 745)⟩,⟨(.ofNat 8497),(.int (.ofNat 8497) 747),(.str ⟨⟨[102]⟩⟩ 748)⟩]⟩ 17),⟨[]⟩⟩
noncomputable def o104 (P : Params) : Obj := ⟨(.type "dict"),none,(.dict ⟨[⟨(.ofNat 8499),(.int (.ofNat 8499) 750),(.str ⟨⟨[109]⟩⟩ 751)⟩,⟨(.ofNat 8510),(.int (.ofNat 8510) 753),(.str ⟨⟨[947]⟩⟩ 754)⟩,⟨(.ofNat 8511),(.int (.ofNat 8511) 756),(.str ⟨⟨[960]⟩⟩ 757)⟩,⟨(.ofNat 8517),(.int (.ofNat 8517) 759),(.str ⟨⟨[100]⟩⟩ 760)⟩,⟨(.ofNat 13169),(.int (.ofNat 13169) 762),(.str ⟨⟨[104,112,97]⟩⟩ 763)⟩,⟨(.ofNat 13171),(.int (.ofNat 13171) 765),(.str ⟨⟨[97,117]⟩⟩ 766)⟩,⟨(.ofNat 13173),(.int (.ofNat 13173) 768),(.str ⟨⟨[111,118]⟩⟩ 769)⟩,⟨(.ofNat 13184),(.int (.ofNat 13184) 771),(.str ⟨⟨[112,97]⟩⟩ 772)⟩,⟨(.ofNat 13185),(.int (.ofNat 13185) 774),(.str ⟨⟨[110,97]⟩⟩ 775)⟩,⟨(.ofNat 13186),(.int (.ofNat 13186) 777),(.str ⟨⟨[956,97]⟩⟩ 778)⟩,⟨(.ofNat 13187),(.int (.ofNat 13187) 780),(.str ⟨⟨[109,97]⟩⟩ 781)⟩,⟨(.ofNat 13188),(.int (.ofNat 13188) 783),(.str ⟨⟨[107,97]⟩⟩ 784)⟩,⟨(.ofNat 13189),(.int (.ofNat 13189) 786),(.str ⟨⟨[107,98]⟩⟩ 787)⟩,⟨(.ofNat 13190),(.int (.ofNat 13190) 789),(.str ⟨⟨[109,98]⟩⟩ 790)⟩,⟨(.ofNat 13191),(.int (.ofNat 13191) 792),(.str ⟨⟨[103,98]⟩⟩ 793)⟩,⟨(.ofNat 13194),(.int (.ofNat 13194) 795),(.str ⟨⟨[112,102]⟩⟩ 796)⟩,⟨(.ofNat 13195),(.int (.ofNat 13195) 798),(.str ⟨⟨[110,102]⟩⟩ 799)⟩]⟩ 17),⟨[]⟩⟩
noncomputable def o105 (P : Params) : Obj := ⟨(.type "dict"),none,(.dict ⟨[⟨(.ofNat 13196),(.int (.ofNat 13196) 801),(.str ⟨⟨[956,102]⟩⟩ 802)⟩,⟨(.ofNat 13200),(.int (.ofNat 13200) 804),(.str ⟨⟨[104,122]⟩⟩ 805)⟩,⟨(.ofNat 13201),(.int (.ofNat 13201) 807),(.str ⟨⟨[107,104,122]⟩⟩ 808)⟩,⟨(.ofNat 13202),(.int (.ofNat 13202) 810),(.str ⟨⟨[109,104,122]⟩⟩ 811)⟩,⟨(.ofNat 13203),(.int (.ofNat 13203) 813),(.str ⟨⟨[103,104,122]⟩⟩ 814)⟩,⟨(.ofNat 13204),(.int (.ofNat 13204) 816),(.str ⟨⟨[116,104,122]⟩⟩ 817)⟩,⟨(.ofNat 13225),(.int (.ofNat 13225) 819),(.str ⟨⟨[112,97]⟩⟩ 820)⟩,⟨(.ofNat 13226),(.int (.ofNat 13226) 822),(.str ⟨⟨[107,112,97]⟩⟩ 823)⟩,⟨(.ofNat 13227),(.int (.ofNat 13227) 825),(.str ⟨⟨[109,112,97]⟩⟩ 826)⟩,⟨(.ofNat 13228),(.int (.ofNat 13228) 828),(.str ⟨⟨[103,112,97]⟩⟩ 829)⟩,⟨(.ofNat 13236),(.int (.ofNat 13236) 831),(.str ⟨⟨[112,118]⟩⟩ 832)⟩,⟨(.ofNat 13237),(.int (.ofNat 13237) 834),(.str ⟨⟨[110,118]⟩⟩ 835)⟩,⟨(.ofNat 13238),(.int (.ofNat 13238) 837),(.str ⟨⟨[956,118]⟩⟩ 838)⟩,⟨(.ofNat 13239),(.int (.ofNat 13239) 840),(.str ⟨⟨[109,118]⟩⟩ 841)⟩,⟨(.ofNat 13240),(.int (.ofNat 13240) 843),(.str ⟨⟨[107,118]⟩⟩ 844)⟩,⟨(.ofNat 13241),(.int (.ofNat 13241) 846),(.str ⟨⟨[109,118]⟩⟩ 847)⟩,⟨(.ofNat 13242),(.int (.ofNat 13242) 849),(.str ⟨⟨[112,119]⟩⟩ 850)⟩]⟩ 17),⟨[]⟩⟩
noncomputable def o106 (P : Params) : Obj := ⟨(.type "dict"),none,(.dict ⟨[⟨(.ofNat 13243),(.int (.ofNat 13243) 852),(.str ⟨⟨[110,119]⟩⟩ 853)⟩,⟨(.ofNat 13244),(.int (.ofNat 13244) 855),(.str ⟨⟨[956,119]⟩⟩ 856)⟩,⟨(.ofNat 13245),(.int (.ofNat 13245) 858),(.str ⟨⟨[109,119]⟩⟩ 859)⟩,⟨(.ofNat 13246),(.int (.ofNat 13246) 861),(.str ⟨⟨[107,119]⟩⟩ 862)⟩,⟨(.ofNat 13247),(.int (.ofNat 13247) 864),(.str ⟨⟨[109,119]⟩⟩ 865)⟩,⟨(.ofNat 13248),(.int (.ofNat 13248) 867),(.str ⟨⟨[107,969]⟩⟩ 868)⟩,⟨(.ofNat 13249),(.int (.ofNat 13249) 870),(.str ⟨⟨[109,969]⟩⟩ 871)⟩,⟨(.ofNat 13251),(.int (.ofNat 13251) 873),(.str ⟨⟨[98,113]⟩⟩ 874)⟩,⟨(.ofNat 13254),(.int (.ofNat 13254) 876),(.str ⟨⟨[99,8725,107,103]⟩⟩ 877)⟩,⟨(.ofNat 13255),(.int (.ofNat 13255) 879),(.str ⟨⟨[99,111,46]⟩⟩ 880)⟩,⟨(.ofNat 13256),(.int (.ofNat 13256) 882),(.str ⟨⟨[100,98]⟩⟩ 883)⟩,⟨(.ofNat 13257),(.int (.ofNat 13257) 885),(.str ⟨⟨[103,121]⟩⟩ 886)⟩,⟨(.ofNat 13259),(.int (.ofNat 13259) 888),(.str ⟨⟨[104,112]⟩⟩ 889)⟩,⟨(.ofNat 13261),(.int (.ofNat 13261) 891),(.str ⟨⟨[107,107]⟩⟩ 892)⟩,⟨(.ofNat 13262),(.int (.ofNat 13262) 894),(.str ⟨⟨[107,109]⟩⟩ 895)⟩,⟨(.ofNat 13271),(.int (.ofNat 13271) 897),(.str ⟨⟨[112,104]⟩⟩ 898)⟩,⟨(.ofNat 13273),(.int (.ofNat 13273) 900),(.str ⟨⟨[112,112,109]⟩⟩ 901)⟩]⟩ 17),⟨[]⟩⟩
noncomputable def o107 (P : Params) : Obj := ⟨(.type "dict"),none,(.dict ⟨[⟨(.ofNat 13274),(.int (.ofNat 13274) 903),(.str ⟨⟨[112,114]⟩⟩ 904)⟩,⟨(.ofNat 13276),(.int (.ofNat 13276) 906),(.str ⟨⟨[115,118]⟩⟩ 907)⟩,⟨(.ofNat 13277),(.int (.ofNat 13277) 909),(.str ⟨⟨[119,98]⟩⟩ 910)⟩,⟨(.ofNat 64256),(.int (.ofNat 64256) 912),(.str ⟨⟨[102,102]⟩⟩ 913)⟩,⟨(.ofNat 64257),(.int (.ofNat 64257) 915),(.str ⟨⟨[102,105]⟩⟩ 916)⟩,⟨(.ofNat 64258),(.int (.ofNat 64258) 918),(.str ⟨⟨[102,108]⟩⟩ 919)⟩,⟨(.ofNat 64259),(.int (.ofNat 64259) 921),(.str ⟨⟨[102,102,105]⟩⟩ 922)⟩,⟨(.ofNat 64260),(.int (.ofNat 64260) 924),(.str ⟨⟨[102,102,108]⟩⟩ 925)⟩,⟨(.ofNat 64261),(.int (.ofNat 64261) 927),(.str ⟨⟨[115,116]⟩⟩ 928)⟩,⟨(.ofNat 64262),(.int (.ofNat 64262) 930),(.str ⟨⟨[115,116]⟩⟩ 931)⟩,⟨(.ofNat 64275),(.int (.ofNat 64275) 933),(.str ⟨⟨[1396,1398]⟩⟩ 934)⟩,⟨(.ofNat 64276),(.int (.ofNat 64276) 936),(.str ⟨⟨[1396,1381]⟩⟩ 937)⟩,⟨(.ofNat 64277),(.int (.ofNat 64277) 939),(.str ⟨⟨[1396,1387]⟩⟩ 940)⟩,⟨(.ofNat 64278),(.int (.ofNat 64278) 942),(.str ⟨⟨[1406,1398]⟩⟩ 943)⟩,⟨(.ofNat 64279),(.int (.ofNat 64279) 945),(.str ⟨⟨[1396,1389]⟩⟩ 946)⟩,⟨(.ofNat 119808),(.int (.ofNat 119808) 948),(.str ⟨⟨[97]⟩⟩ 949)⟩,⟨(.ofNat 119809),(.int (.ofNat 119809) 951),(.str ⟨⟨[98]⟩⟩ 952)⟩]⟩ 17),⟨[]⟩⟩
noncomputable def o108 (P : Params) : Obj := ⟨(.type "dict"),none,(.dict ⟨[⟨(.ofNat 119810),(.int (.ofNat 119810) 954),(.str ⟨⟨[99]⟩⟩ 955)⟩,⟨(.ofNat 119811),(.int (.ofNat 119811) 957),(.str ⟨⟨[100]⟩⟩ 958)⟩,⟨(.ofNat 119812),(.int (.ofNat 119812) 960),(.str ⟨⟨[101]⟩⟩ 961)⟩,⟨(.ofNat 119813),(.int (.ofNat 119813) 963),(.str ⟨⟨[102]⟩⟩ 964)⟩,⟨(.ofNat 119814),(.int (.ofNat 119814) 966),(.str ⟨⟨[103]⟩⟩ 967)⟩,⟨(.ofNat 119815),(.int (.ofNat 119815) 969),(.str ⟨⟨[104]⟩⟩ 970)⟩,⟨(.ofNat 119816),(.int (.ofNat 119816) 972),(.str ⟨⟨[105]⟩⟩ 973)⟩,⟨(.ofNat 119817),(.int (.ofNat 119817) 975),(.str ⟨⟨[106]⟩⟩ 976)⟩,⟨(.ofNat 119818),(.int (.ofNat 119818) 978),(.str ⟨⟨[107]⟩⟩ 979)⟩,⟨(.ofNat 119819),(.int (.ofNat 119819) 981),(.str ⟨⟨[108]⟩⟩ 982)⟩,⟨(.ofNat 119820),(.int (.ofNat 119820) 984),(.str ⟨⟨[109]⟩⟩ 985)⟩,⟨(.ofNat 119821),(.int (.ofNat 119821) 987),(.str ⟨⟨[110]⟩⟩ 988)⟩,⟨(.ofNat 119822),(.int (.ofNat 119822) 990),(.str ⟨⟨[111]⟩⟩ 991)⟩,⟨(.ofNat 119823),(.int (.ofNat 119823) 993),(.str ⟨⟨[112]⟩⟩ 994)⟩,⟨(.ofNat 119824),(.int (.ofNat 119824) 996),(.str ⟨⟨[113]⟩⟩ 997)⟩,⟨(.ofNat 119825),(.int (.ofNat 119825) 999),(.str ⟨⟨[114]⟩⟩ 1000)⟩,⟨(.ofNat 119826),(.int (.ofNat 119826) 1002),(.str ⟨⟨[115]⟩⟩ 1003)⟩]⟩ 17),⟨[]⟩⟩
noncomputable def o109 (P : Params) : Obj := ⟨(.type "dict"),none,(.dict ⟨[⟨(.ofNat 119827),(.int (.ofNat 119827) 1005),(.str ⟨⟨[116]⟩⟩ 1006)⟩,⟨(.ofNat 119828),(.int (.ofNat 119828) 1008),(.str ⟨⟨[117]⟩⟩ 1009)⟩,⟨(.ofNat 119829),(.int (.ofNat 119829) 1011),(.str ⟨⟨[118]⟩⟩ 1012)⟩,⟨(.ofNat 119830),(.int (.ofNat 119830) 1014),(.str ⟨⟨[119]⟩⟩ 1015)⟩,⟨(.ofNat 119831),(.int (.ofNat 119831) 1017),(.str ⟨⟨[120]⟩⟩ 1018)⟩,⟨(.ofNat 119832),(.int (.ofNat 119832) 1020),(.str ⟨⟨[121]⟩⟩ 1021)⟩,⟨(.ofNat 119833),(.int (.ofNat 119833) 1023),(.str ⟨⟨[122]⟩⟩ 1024)⟩,⟨(.ofNat 119860),(.int (.ofNat 119860) 1026),(.str ⟨⟨[97]⟩⟩ 1027)⟩,⟨(.ofNat 119861),(.int (.ofNat 119861) 1029),(.str ⟨⟨[98]⟩⟩ 1030)⟩,⟨(.ofNat 119862),(.int (.ofNat 119862) 1032),(.str ⟨⟨[99]⟩⟩ 1033)⟩,⟨(.ofNat 119863),(.int (.ofNat 119863) 1035),(.str ⟨⟨[100]⟩⟩ 1036)⟩,⟨(.ofNat 119864),(.int (.ofNat 119864) 1038),(.str ⟨⟨[101]⟩⟩ 1039)⟩,⟨(.ofNat 119865),(.int (.ofNat 119865) 1041),(.str ⟨⟨[102]⟩⟩ 1042)⟩,⟨(.ofNat 119866),(.int (.ofNat 119866) 1044),(.str ⟨⟨[103]⟩⟩ 1045)⟩,⟨(.ofNat 119867),(.int (.ofNat 119867) 1047),(.str ⟨⟨[104]⟩⟩ 1048)⟩,⟨(.ofNat 119868),(.int (.ofNat 119868) 1050),(.str ⟨⟨[105]⟩⟩ 1051)⟩,⟨(.ofNat 119869),(.int (.ofNat 119869) 1053),(.str ⟨⟨[106]⟩⟩ 1054)⟩]⟩ 17),⟨[]⟩⟩
noncomputable def o110 (P : Params) : Obj := ⟨(.type "dict"),none,(.dict ⟨[⟨(.ofNat 119870),(.int (.ofNat 119870) 1056),(.str ⟨⟨[107]⟩⟩ 1057)⟩,⟨(.ofNat 119871),(.int (.ofNat 119871) 1059),(.str ⟨⟨[108]⟩⟩ 1060)⟩,⟨(.ofNat 119872),(.int (.ofNat 119872) 1062),(.str ⟨⟨[109]⟩⟩ 1063)⟩,⟨(.ofNat 119873),(.int (.ofNat 119873) 1065),(.str ⟨⟨[110]⟩⟩ 1066)⟩,⟨(.ofNat 119874),(.int (.ofNat 119874) 1068),(.str ⟨⟨[111]⟩⟩ 1069)⟩,⟨(.ofNat 119875),(.int (.ofNat 119875) 1071),(.str ⟨⟨[112]⟩⟩ 1072)⟩,⟨(.ofNat 119876),(.int (.ofNat 119876) 1074),(.str ⟨⟨[113]⟩⟩ 1075)⟩,⟨(.ofNat 119877),(.int (.ofNat 119877) 1077),(.str ⟨⟨[114]⟩⟩ 1078)⟩,⟨(.ofNat 119878),(.int (.ofNat 119878) 1080),(.str ⟨⟨[115]⟩⟩ 1081)⟩,⟨(.ofNat 119879),(.int (.ofNat 119879) 1083),(.str ⟨⟨[116]⟩⟩ 1084)⟩,⟨(.ofNat 119880),(.int (.ofNat 119880) 1086),(.str ⟨⟨[117]⟩⟩ 1087)⟩,⟨(.ofNat 119881),(.int (.ofNat 119881) 1089),(.str ⟨⟨[118]⟩⟩ 1090)⟩,⟨(.ofNat 119882),(.int (.ofNat 119882) 1092),(.str ⟨⟨[119]⟩⟩ 1093)⟩,⟨(.ofNat 119883),(.int (.ofNat 119883) 1095),(.str ⟨⟨[120]⟩⟩ 1096)⟩,⟨(.ofNat 119884),(.int (.ofNat 119884) 1098),(.str ⟨⟨[121]⟩⟩ 1099)⟩,⟨(.ofNat 119885),(.int (.ofNat 119885) 1101),(.str ⟨⟨[122]⟩⟩ 1102)⟩,⟨(.ofNat 119912),(.int (.ofNat 119912) 1104),(.str ⟨⟨[97]⟩⟩ 1105)⟩]⟩ 17),⟨[]⟩⟩
noncomputable def o111 (P : Params) : Obj := ⟨(.type "dict"),none,(.dict ⟨[⟨(.ofNat 119913),(.int (.ofNat 119913) 1107),(.str ⟨⟨[98]⟩⟩ 1108)⟩,⟨(.ofNat 119914),(.int (.ofNat 119914) 1110),(.str ⟨⟨[99]⟩⟩ 1111)⟩,⟨(.ofNat 119915),(.int (.ofNat 119915) 1113),(.str ⟨⟨[100]⟩⟩ 1114)⟩,⟨(.ofNat 119916),(.int (.ofNat 119916) 1116),(.str ⟨⟨[101]⟩⟩ 1117)⟩,⟨(.ofNat 119917),(.int (.ofNat 119917) 1119),(.str ⟨⟨[102]⟩⟩ 1120)⟩,⟨(.ofNat 119918),(.int (.ofNat 119918) 1122),(.str ⟨⟨[103]⟩⟩ 1123)⟩,⟨(.ofNat 119919),(.int (.ofNat 119919) 1125),(.str ⟨⟨[104]⟩⟩ 1126)⟩,⟨(.ofNat 119920),(.int (.ofNat 119920) 1128),(.str ⟨⟨[105]⟩⟩ 1129)⟩,⟨(.ofNat 119921),(.int (.ofNat 119921) 1131),(.str ⟨⟨[106]⟩⟩ 1132)⟩,⟨(.ofNat 119922),(.int (.ofNat 119922) 1134),(.str ⟨⟨[107]⟩⟩ 1135)⟩,⟨(.ofNat 119923),(.int (.ofNat 119923) 1137),(.str ⟨⟨[108]⟩⟩ 1138)⟩,⟨(.ofNat 119924),(.int (.ofNat 119924) 1140),(.str ⟨⟨[109]⟩⟩ 1141)⟩,⟨(.ofNat 119925),(.int (.ofNat 119925) 1143),(.str ⟨⟨[110]⟩⟩ 1144)⟩,⟨(.ofNat 119926),(.int (.ofNat 119926) 1146),(.str ⟨⟨[111]⟩⟩ 1147)⟩,⟨(.ofNat 119927),(.int (.ofNat 119927) 1149),(.str ⟨⟨[112]⟩⟩ 1150)⟩,⟨(.ofNat 119928),(.int (.ofNat 119928) 1152),(.str ⟨⟨[113]⟩⟩ 1153)⟩,⟨(.ofNat 119929),(.int (.ofNat 119929) 1155),(.str ⟨⟨[114]⟩⟩ 1156)⟩]⟩ 17),⟨[]⟩⟩
noncomputable def o112 (P : Params) : Obj := ⟨(.type "dict"),none,(.dict ⟨[⟨(.ofNat 119930),(.int (.ofNat 119930) 1158),(.str ⟨⟨[115]⟩⟩ 1159)⟩,⟨(.ofNat 119931),(.int (.ofNat 119931) 1161),(.str ⟨⟨[116]⟩⟩ 1162)⟩,⟨(.ofNat 119932),(.int (.ofNat 119932) 1164),(.str ⟨⟨[117]⟩⟩ 1165)⟩,⟨(.ofNat 119933),(.int (.ofNat 119933) 1167),(.str ⟨⟨[118]⟩⟩ 1168)⟩,⟨(.ofNat 119934),(.int (.ofNat 119934) 1170),(.str ⟨⟨[119]⟩⟩ 1171)⟩,⟨(.ofNat 119935),(.int (.ofNat 119935) 1173),(.str ⟨⟨[120]⟩⟩ 1174)⟩,⟨(.ofNat 119936),(.int (.ofNat 119936) 1176),(.str ⟨⟨[121]⟩⟩ 1177)⟩,⟨(.ofNat 119937),(.int (.ofNat 119937) 1179),(.str ⟨⟨[122]⟩⟩ 1180)⟩,⟨(.ofNat 119964),(.int (.ofNat 119964) 1182),(.str ⟨⟨[97]⟩⟩ 1183)⟩,⟨(.ofNat 119966),(.int (.ofNat 119966) 1185),(.str ⟨⟨[99]⟩⟩ 1186)⟩,⟨(.ofNat 119967),(.int (.ofNat 119967) 1188),(.str ⟨⟨[100]⟩⟩ 1189)⟩,⟨(.ofNat 119970),(.int (.ofNat 119970) 1191),(.str ⟨⟨[103]⟩⟩ 1192)⟩,⟨(.ofNat 119973),(.int (.ofNat 119973) 1194),(.str ⟨⟨[106]⟩⟩ 1195)⟩,⟨(.ofNat 119974),(.int (.ofNat 119974) 1197),(.str ⟨⟨[107]⟩⟩ 1198)⟩,⟨(.ofNat 119977),(.int (.ofNat 119977) 1200),(.str ⟨⟨[110]⟩⟩ 1201)⟩,⟨(.ofNat 119978),(.int (.ofNat 119978) 1203),(.str ⟨⟨[111]⟩⟩ 1204)⟩,⟨(.ofNat 119979),(.int (.ofNat 119979) 1206),(.str ⟨⟨[112]⟩⟩ 1207)⟩]⟩ 17),⟨[]⟩⟩
noncomputable def o113 (P : Params) : Obj := ⟨(.type "dict"),none,(.dict ⟨[⟨(.ofNat 119980),(.int (.ofNat 119980) 1209),(.str ⟨⟨[113]⟩⟩ 1210)⟩,⟨(.ofNat 119982),(.int (.ofNat 119982) 1212),(.str ⟨⟨[115]⟩⟩ 1213)⟩,⟨(.ofNat 119983),(.int (.ofNat 119983) 1215),(.str ⟨⟨[116]⟩⟩ 1216)⟩,⟨(.ofNat 119984),(.int (.ofNat 119984) 1218),(.str ⟨⟨[117]⟩⟩ 1219)⟩,⟨(.ofNat 119985),(.int (.ofNat 119985) 1221),(.str ⟨⟨[118]⟩⟩ 1222)⟩,⟨(.ofNat 119986),(.int (.ofNat 119986) 1224),(.str ⟨⟨[119]⟩⟩ 1225)⟩,⟨(.ofNat 119987),(.int (.ofNat 119987) 1227),(.str ⟨⟨[120]⟩⟩ 1228)⟩,⟨(.ofNat 119988),(.int (.ofNat 119988) 1230),(.str ⟨⟨[121]⟩⟩ 1231)⟩,⟨(.ofNat 119989),(.int (.ofNat 119989) 1233),(.str ⟨⟨[122]⟩⟩ 1234)⟩,⟨(.ofNat 120016),(.int (.ofNat 120016) 1236),(.str ⟨⟨[97]⟩⟩ 1237)⟩,⟨(.ofNat 120017),(.int (.ofNat 120017) 1239),(.str ⟨⟨[98]⟩⟩ 1240)⟩,⟨(.ofNat 120018),(.int (.ofNat 120018) 1242),(.str ⟨⟨[99]⟩⟩ 1243)⟩,⟨(.ofNat 120019),(.int (.ofNat 120019) 1245),(.str ⟨⟨[100]⟩⟩ 1246)⟩,⟨(.ofNat 120020),(.int (.ofNat 120020) 1248),(.str ⟨⟨[101]⟩⟩ 1249)⟩,⟨(.ofNat 120021),(.int (.ofNat 120021) 1251),(.str ⟨⟨[102]⟩⟩ 1252)⟩,⟨(.ofNat 120022),(.int (.ofNat 120022) 1254),(.str ⟨⟨[103]⟩⟩ 1255)⟩,⟨(.ofNat 120023),(.int (.ofNat 120023) 1257),(.str ⟨⟨[104]⟩⟩ 1258)⟩]⟩ 17),⟨[]⟩⟩
noncomputable def o114 (P : Params) : Obj := ⟨(.type "dict"),none,(.dict ⟨[⟨(.ofNat 120024),(.int (.ofNat 120024) 1260),(.str ⟨⟨[105]⟩⟩ 1261)⟩,⟨(.ofNat 120025),(.int (.ofNat 120025) 1263),(.str ⟨⟨[106]⟩⟩ 1264)⟩,⟨(.ofNat 120026),(.int (.ofNat 120026) 1266),(.str ⟨⟨[107]⟩⟩ 1267)⟩,⟨(.ofNat 120027),(.int (.ofNat 120027) 1269),(.str ⟨⟨[108]⟩⟩ 1270)⟩,⟨(.ofNat 120028),(.int (.ofNat 120028) 1272),(.str ⟨⟨[109]⟩⟩ 1273)⟩,⟨(.ofNat 120029),(.int (.ofNat 120029) 1275),(.str ⟨⟨[110]⟩⟩ 1276)⟩,⟨(.ofNat 120030),(.int (.ofNat 120030) 1278),(.str ⟨⟨[111]⟩⟩ 1279)⟩,⟨(.ofNat 120031),(.int (.ofNat 120031) 1281),(.str ⟨⟨[112]⟩⟩ 1282)⟩,⟨(.ofNat 120032),(.int (.ofNat 120032) 1284),(.str ⟨⟨[113]⟩⟩ 1285)⟩,⟨(.ofNat 120033),(.int (.ofNat 120033) 1287),(.str ⟨⟨[114]⟩⟩ 1288)⟩,⟨(.ofNat 120034),(.int (.ofNat 120034) 1290),(.str ⟨⟨[115]⟩⟩ 1291)⟩,⟨(.ofNat 120035),(.int (.ofNat 120035) 1293),(.str ⟨⟨[116]⟩⟩ 1294)⟩,⟨(.ofNat 120036),(.int (.ofNat 120036) 1296),(.str ⟨⟨[117]⟩⟩ 1297)⟩,⟨(.ofNat 120037),(.int (.ofNat 120037) 1299),(.str ⟨⟨[118]⟩⟩ 1300)⟩,⟨(.ofNat 120038),(.int (.ofNat 120038) 1302),(.str ⟨⟨[119]⟩⟩ 1303)⟩,⟨(.ofNat 120039),(.int (.ofNat 120039) 1305),(.str ⟨⟨[120]⟩⟩ 1306)⟩,⟨(.ofNat 120040),(.int (.ofNat 120040) 1308),(.str ⟨⟨[121]⟩⟩ 1309)⟩]⟩ 17),⟨[]⟩⟩
noncomputable def o115 (P : Params) : Obj := ⟨(.type "dict"),none,(.dict ⟨[⟨(.ofNat 120041),(.int (.ofNat 120041) 1311),(.str ⟨⟨[122]⟩⟩ 1312)⟩,⟨(.ofNat 120068),(.int (.ofNat 120068) 1314),(.str ⟨⟨[97]⟩⟩ 1315)⟩,⟨(.ofNat 120069),(.int (.ofNat 120069) 1317),(.str ⟨⟨[98]⟩⟩ 1318)⟩,⟨(.ofNat 120071),(.int (.ofNat 120071) 1320),(.str ⟨⟨[100]⟩⟩ 1321)⟩,⟨(.ofNat 120072),(.int (.ofNat 120072) 1323),(.str ⟨⟨[101]⟩⟩ 1324)⟩,⟨(.ofNat 120073),(.int (.ofNat 120073) 1326),(.str ⟨⟨[102]⟩⟩ 1327)⟩,⟨(.ofNat 120074),(.int (.ofNat 120074) 1329),(.str ⟨⟨[103]⟩⟩ 1330)⟩,⟨(.ofNat 120077),(.int (.ofNat 120077) 1332),(.str ⟨⟨[106]⟩⟩ 1333)⟩,⟨(.ofNat 120078),(.int (.ofNat 120078) 1335),(.str ⟨⟨[107]⟩⟩ 1336)⟩,⟨(.ofNat 120079),(.int (.ofNat 120079) 1338),(.str ⟨⟨[108]⟩⟩ 1339)⟩,⟨(.ofNat 120080),(.int (.ofNat 120080) 1341),(.str ⟨⟨[109]⟩⟩ 1342)⟩,⟨(.ofNat 120081),(.int (.ofNat 120081) 1344),(.str ⟨⟨[110]⟩⟩ 1345)⟩,⟨(.ofNat 120082),(.int (.ofNat 120082) 1347),(.str ⟨⟨[111]⟩⟩ 1348)⟩,⟨(.ofNat 120083),(.int (.ofNat 120083) 1350),(.str ⟨⟨[112]⟩⟩ 1351)⟩,⟨(.ofNat 120084),(.int (.ofNat 120084) 1353),(.str ⟨⟨[113]⟩⟩ 1354)⟩,⟨(.ofNat 120086),(.int (.ofNat 120086) 1356),(.str ⟨⟨[115]⟩⟩ 1357)⟩,⟨(.ofNat 120087),(.int (.ofNat 120087) 1359),(.str ⟨⟨[116]⟩⟩ 1360)⟩]⟩ 17),⟨[]⟩⟩
noncomputable def o116 (P : Params) : Obj := ⟨(.type "dict"),none,(.dict ⟨[⟨(.ofNat 120088),(.int (.ofNat 120088) 1362),(.str ⟨⟨[117]⟩⟩ 1363)⟩,⟨(.ofNat 120089),(.int (.ofNat 120089) 1365),(.str ⟨⟨[118]⟩⟩ 1366)⟩,⟨(.ofNat 120090),(.int (.ofNat 120090) 1368),(.str ⟨⟨[119]⟩⟩ 1369)⟩,⟨(.ofNat 120091),(.int (.ofNat 120091) 1371),(.str ⟨⟨[120]⟩⟩ 1372)⟩,⟨(.ofNat 120092),(.int (.ofNat 120092) 1374),(.str ⟨⟨[121]⟩⟩ 1375)⟩,⟨(.ofNat 120120),(.int (.ofNat 120120) 1377),(.str ⟨⟨[97]⟩⟩ 1378)⟩,⟨(.ofNat 120121),(.int (.ofNat 120121) 1380),(.str ⟨⟨[98]⟩⟩ 1381)⟩,⟨(.ofNat 120123),(.int (.ofNat 120123) 1383),(.str ⟨⟨[100]⟩⟩ 1384)⟩,⟨(.ofNat 120124),(.int (.ofNat 120124) 1386),(.str ⟨⟨[101]⟩⟩ 1387)⟩,⟨(.ofNat 120125),(.int (.ofNat 120125) 1389),(.str ⟨⟨[102]⟩⟩ 1390)⟩,⟨(.ofNat 120126),(.int (.ofNat 120126) 1392),(.str ⟨⟨[103]⟩⟩ 1393)⟩,⟨(.ofNat 120128),(.int (.ofNat 120128) 1395),(.str ⟨⟨[105]⟩⟩ 1396)⟩,⟨(.ofNat 120129),(.int (.ofNat 120129) 1398),(.str ⟨⟨[106]⟩⟩ 1399)⟩,⟨(.ofNat 120130),(.int (.ofNat 120130) 1401),(.str ⟨⟨[107]⟩⟩ 1402)⟩,⟨(.ofNat 120131),(.int (.ofNat 120131) 1404),(.str ⟨⟨[108]⟩⟩ 1405)⟩,⟨(.ofNat 120132),(.int (.ofNat 120132) 1407),(.str ⟨⟨[109]⟩⟩ 1408)⟩,⟨(.ofNat 120134),(.int (.ofNat 120134) 1410),(.str ⟨⟨[111]⟩⟩ 1411)⟩]⟩ 17),⟨[]⟩⟩
noncomputable def o117 (P : Params) : Obj := ⟨(.type "dict"),none,(.dict ⟨[⟨(.ofNat 120138),(.int (.ofNat 120138) 1413),(.str ⟨⟨[115]⟩⟩ 1414)⟩,⟨(.ofNat 120139),(.int (.ofNat 120139) 1416),(.str ⟨⟨[116]⟩⟩ 1417)⟩,⟨(.ofNat 120140),(.int (.ofNat 120140) 1419),(.str ⟨⟨[117]⟩⟩ 1420)⟩,⟨(.ofNat 120141),(.int (.ofNat 120141) 1422),(.str ⟨⟨[118]⟩⟩ 1423)⟩,⟨(.ofNat 120142),(.int (.ofNat 120142) 1425),(.str ⟨⟨[119]⟩⟩ 1426)⟩,⟨(.ofNat 120143),(.int (.ofNat 120143) 1428),(.str ⟨⟨[120]⟩⟩ 1429)⟩,⟨(.ofNat 120144),(.int (.ofNat 120144) 1431),(.str ⟨⟨[121]⟩⟩ 1432)⟩,⟨(.ofNat 120172),(.int (.ofNat 120172) 1434),(.str ⟨⟨[97]⟩⟩ 1435)⟩,⟨(.ofNat 120173),(.int (.ofNat 120173) 1437),(.str ⟨⟨[98]⟩⟩ 1438)⟩,⟨(.ofNat 120174),(.int (.ofNat 120174) 1440),(.str ⟨⟨[99]⟩⟩ 1441)⟩,⟨(.ofNat 120175),(.int (.ofNat 120175) 1443),(.str ⟨⟨[100]⟩⟩ 1444)⟩,⟨(.ofNat 120176),(.int (.ofNat 120176) 1446),(.str ⟨⟨[101]⟩⟩ 1447)⟩,⟨(.ofNat 120177),(.int (.ofNat 120177) 1449),(.str ⟨⟨[102]⟩⟩ 1450)⟩,⟨(.ofNat 120178),(.int (.ofNat 120178) 1452),(.str ⟨⟨[103]⟩⟩ 1453)⟩,⟨(.ofNat 120179),(.int (.ofNat 120179) 1455),(.str ⟨⟨[104]⟩⟩ 1456)⟩,⟨(.ofNat 120180),(.int (.ofNat 120180) 1458),(.str ⟨⟨[105]⟩⟩ 1459)⟩,⟨(.ofNat 120181),(.int (.ofNat 120181) 1461),(.str ⟨⟨[106]⟩⟩ 1462)⟩]⟩ 17),⟨[]⟩⟩
noncomputable def o118 (P : Params) : Obj := ⟨(.type "dict"),none,(.dict ⟨[⟨(.ofNat 120182),(.int (.ofNat 120182) 1464),(.str ⟨⟨[107]⟩⟩ 1465)⟩,⟨(.ofNat 120183),(.int (.ofNat 120183) 1467),(.str ⟨⟨[108]⟩⟩ 1468)⟩,⟨(.ofNat 120184),(.int (.ofNat 120184) 1470),(.str ⟨⟨[109]⟩⟩ 1471)⟩,⟨(.ofNat 120185),(.int (.ofNat 120185) 1473),(.str ⟨⟨[110]⟩⟩ 1474)⟩,⟨(.ofNat 120186),(.int (.ofNat 120186) 1476),(.str ⟨⟨[111]⟩⟩ 1477)⟩,⟨(.ofNat 120187),(.int (.ofNat 120187) 1479),(.str ⟨⟨[112]⟩⟩ 1480)⟩,⟨(.ofNat 120188),(.int (.ofNat 120188) 1482),(.str ⟨⟨[113]⟩⟩ 1483)⟩,⟨(.ofNat 120189),(.int (.ofNat 120189) 1485),(.str ⟨⟨[114]⟩⟩ 1486)⟩,⟨(.ofNat 120190),(.int (.ofNat 120190) 1488),(.str ⟨⟨[115]⟩⟩ 1489)⟩,⟨(.ofNat 120191),(.int (.ofNat 120191) 1491),(.str ⟨⟨[116]⟩⟩ 1492)⟩,⟨(.ofNat 120192),(.int (.ofNat 120192) 1494),(.str ⟨⟨[117]⟩⟩ 1495)⟩,⟨(.ofNat 120193),(.int (.ofNat 120193) 1497),(.str ⟨⟨[118]⟩⟩ 1498)⟩,⟨(.ofNat 120194),(.int (.ofNat 120194) 1500),(.str ⟨⟨[119]⟩⟩ 1501)⟩,⟨(.ofNat 120195),(.int (.ofNat 120195) 1503),(.str ⟨⟨[120]⟩⟩ 1504)⟩,⟨(.ofNat 120196),(.int (.ofNat 120196) 1506),(.str ⟨⟨[121]⟩⟩ 1507)⟩,⟨(.ofNat 120197),(.int (.ofNat 120197) 1509),(.str ⟨⟨[122]⟩⟩ 1510)⟩,⟨(.ofNat 120224),(.int (.ofNat 120224) 1512),(.str ⟨⟨[97]⟩⟩ 1513)⟩]⟩ 17),⟨[]⟩⟩
noncomputable def o119 (P : Params) : Obj := ⟨(.type "dict"),none,(.dict ⟨[⟨(.ofNat 120225),(.int (.ofNat 120225) 1515),(.str ⟨⟨[98]⟩⟩ 1516)⟩,⟨(.ofNat 120226),(.int (.ofNat 120226) 1518),(.str ⟨⟨[99]⟩⟩ 1519)⟩,⟨(.ofNat 120227),(.int (.ofNat 120227) 1521),(.str ⟨⟨[100]⟩⟩ 1522)⟩,⟨(.ofNat 120228),(.int (.ofNat 120228) 1524),(.str ⟨⟨[101]⟩⟩ 1525)⟩,⟨(.ofNat 120229),(.int (.ofNat 120229) 1527),(.str ⟨⟨[102]⟩⟩ 1528)⟩,⟨(.ofNat 120230),(.int (.ofNat 120230) 1530),(.str ⟨⟨[103]⟩⟩ 1531)⟩,⟨(.ofNat 120231),(.int (.ofNat 120231) 1533),(.str ⟨⟨[104]⟩⟩ 1534)⟩,⟨(.ofNat 120232),(.int (.ofNat 120232) 1536),(.str ⟨⟨[105]⟩⟩ 1537)⟩,⟨(.ofNat 120233),(.int (.ofNat 120233) 1539),(.str ⟨⟨[106]⟩⟩ 1540)⟩,⟨(.ofNat 120234),(.int (.ofNat 120234) 1542),(.str ⟨⟨[107]⟩⟩ 1543)⟩,⟨(.ofNat 120235),(.int (.ofNat 120235) 1545),(.str ⟨⟨[108]⟩⟩ 1546)⟩,⟨(.ofNat 120236),(.int (.ofNat 120236) 1548),(.str ⟨⟨[109]⟩⟩ 1549)⟩,⟨(.ofNat 120237),(.int (.ofNat 120237) 1551),(.str ⟨⟨[110]⟩⟩ 1552)⟩,⟨(.ofNat 120238),(.int (.ofNat 120238) 1554),(.str ⟨⟨[111]⟩⟩ 1555)⟩,⟨(.ofNat 120239),(.int (.ofNat 120239) 1557),(.str ⟨⟨[112]⟩⟩ 1558)⟩,⟨(.ofNat 120240),(.int (.ofNat 120240) 1560),(.str ⟨⟨[113]⟩⟩ 1561)⟩,⟨(.ofNat 120241),(.int (.ofNat 120241) 1563),(.str ⟨⟨[114]⟩⟩ 1564)⟩]⟩ 17),⟨[]⟩⟩
noncomputable def o120 (P : Params) : Obj := ⟨(.type "dict"),none,(.dict ⟨[⟨(.ofNat 120242),(.int (.ofNat 120242) 1566),(.str ⟨⟨[115]⟩⟩ 1567)⟩,⟨(.ofNat 120243),(.int (.ofNat 120243) 1569),(.str ⟨⟨[116]⟩⟩ 1570)⟩,⟨(.ofNat 120244),(.int (.ofNat 120244) 1572),(.str ⟨⟨[117]⟩⟩ 1573)⟩,⟨(.ofNat 120245),(.int (.ofNat 120245) 1575),(.str ⟨⟨[118]⟩⟩ 1576)⟩,⟨(.ofNat 120246),(.int (.ofNat 120246) 1578),(.str ⟨⟨[119]⟩⟩ 1579)⟩,⟨(.ofNat 120247),(.int (.ofNat 120247) 1581),(.str ⟨⟨[120]⟩⟩ 1582)⟩,⟨(.ofNat 120248),(.int (.ofNat 120248) 1584),(.str ⟨⟨[121]⟩⟩ 1585)⟩,⟨(.ofNat 120249),(.int (.ofNat 120249) 1587),(.str ⟨⟨[122]⟩⟩ 1588)⟩,⟨(.ofNat 120276),(.int (.ofNat 120276) 1590),(.str ⟨⟨[97]⟩⟩ 1591)⟩,⟨(.ofNat 120277),(.int (.ofNat 120277) 1593),(.str ⟨⟨[98]⟩⟩ 1594)⟩,⟨(.ofNat 120278),(.int (.ofNat 120278) 1596),(.str ⟨⟨[99]⟩⟩ 1597)⟩,⟨(.ofNat 120279),(.int (.ofNat 120279) 1599),(.str ⟨⟨[100]⟩⟩ 1600)⟩,⟨(.ofNat 120280),(.int (.ofNat 120280) 1602),(.str ⟨⟨[101]⟩⟩ 1603)⟩,⟨(.ofNat 120281),(.int (.ofNat 120281) 1605),(.str ⟨⟨[102]⟩⟩ 1606)⟩,⟨(.ofNat 120282),(.int (.ofNat 120282) 1608),(.str ⟨⟨[103]⟩⟩ 1609)⟩,⟨(.ofNat 120283),(.int (.ofNat 120283) 1611),(.str ⟨⟨[104]⟩⟩ 1612)⟩,⟨(.ofNat 120284),(.int (.ofNat 120284) 1614),(.str ⟨⟨[105]⟩⟩ 1615)⟩]⟩ 17),⟨[]⟩⟩
noncomputable def o121 (P : Params) : Obj := ⟨(.type "dict"),none,(.dict ⟨[⟨(.ofNat 120285),(.int (.ofNat 120285) 1617),(.str ⟨⟨[106]⟩⟩ 1618)⟩,⟨(.ofNat 120286),(.int (.ofNat 120286) 1620),(.str ⟨⟨[107]⟩⟩ 1621)⟩,⟨(.ofNat 120287),(.int (.ofNat 120287) 1623),(.str ⟨⟨[108]⟩⟩ 1624)⟩,⟨(.ofNat 120288),(.int (.ofNat 120288) 1626),(.str ⟨⟨[109]⟩⟩ 1627)⟩,⟨(.ofNat 120289),(.int (.ofNat 120289) 1629),(.str ⟨⟨[110]⟩⟩ 1630)⟩,⟨(.ofNat 120290),(.int (.ofNat 120290) 1632),(.str ⟨⟨[111]⟩⟩ 1633)⟩,⟨(.ofNat 120291),(.int (.ofNat 120291) 1635),(.str ⟨⟨[112]⟩⟩ 1636)⟩,⟨(.ofNat 120292),(.int (.ofNat 120292) 1638),(.str ⟨⟨[113]⟩⟩ 1639)⟩,⟨(.ofNat 120293),(.int (.ofNat 120293) 1641),(.str ⟨⟨[114]⟩⟩ 1642)⟩,⟨(.ofNat 120294),(.int (.ofNat 120294) 1644),(.str ⟨⟨[115]⟩⟩ 1645)⟩,⟨(.ofNat 120295),(.int (.ofNat 120295) 1647),(.str ⟨⟨[116]⟩⟩ 1648)⟩,⟨(.ofNat 120296),(.int (.ofNat 120296) 1650),(.str ⟨⟨[117]⟩⟩ 1651)⟩,⟨(.ofNat 120297),(.int (.ofNat 120297) 1653),(.str ⟨⟨[118]⟩⟩ 1654)⟩,⟨(.ofNat 120298),(.int (.ofNat 120298) 1656),(.str ⟨⟨[119]⟩⟩ 1657)⟩,⟨(.ofNat 120299),(.int (.ofNat 120299) 1659),(.str ⟨⟨[120]⟩⟩ 1660)⟩,⟨(.ofNat 120300),(.int (.ofNat 120300) 1662),(.str ⟨⟨[121]⟩⟩ 1663)⟩,⟨(.ofNat 120301),(.int (.ofNat 120301) 1665),(.str ⟨⟨[122]⟩⟩ 1666)⟩]⟩ 17),⟨[]⟩⟩
noncomputable def o122 (P : Params) : Obj := ⟨(.type "dict"),none,(.dict ⟨[⟨(.ofNat 120328),(.int (.ofNat 120328) 1668),(.str ⟨⟨[97]⟩⟩ 1669)⟩,⟨(.ofNat 120329),(.int (.ofNat 120329) 1671),(.str ⟨⟨[98]⟩⟩ 1672)⟩,⟨(.ofNat 120330),(.int (.ofNat 120330) 1674),(.str ⟨⟨[99]⟩⟩ 1675)⟩,⟨(.ofNat 120331),(.int (.ofNat 120331) 1677),(.str ⟨⟨[100]⟩⟩ 1678)⟩,⟨(.ofNat 120332),(.int (.ofNat 120332) 1680),(.str ⟨⟨[101]⟩⟩ 1681)⟩,⟨(.ofNat 120333),(.int (.ofNat 120333) 1683),(.str ⟨⟨[102]⟩⟩ 1684)⟩,⟨(.ofNat 120334),(.int (.ofNat 120334) 1686),(.str ⟨⟨[103]⟩⟩ 1687)⟩,⟨(.ofNat 120335),(.int (.ofNat 120335) 1689),(.str ⟨⟨[104]⟩⟩ 1690)⟩,⟨(.ofNat 120336),(.int (.ofNat 120336) 1692),(.str ⟨⟨[105]⟩⟩ 1693)⟩,⟨(.ofNat 120337),(.int (.ofNat 120337) 1695),(.str ⟨⟨[106]⟩⟩ 1696)⟩,⟨(.ofNat 120338),(.int (.ofNat 120338) 1698),(.str ⟨⟨[107]⟩⟩ 1699)⟩,⟨(.ofNat 120339),(.int (.ofNat 120339) 1701),(.str ⟨⟨[108]⟩⟩ 1702)⟩,⟨(.ofNat 120340),(.int (.ofNat 120340) 1704),(.str ⟨⟨[109]⟩⟩ 1705)⟩,⟨(.ofNat 120341),(.int (.ofNat 120341) 1707),(.str ⟨⟨[110]⟩⟩ 1708)⟩,⟨(.ofNat 120342),(.int (.ofNat 120342) 1710),(.str ⟨⟨[111]⟩⟩ 1711)⟩,⟨(.ofNat 120343),(.int (.ofNat 120343) 1713),(.str ⟨⟨[112]⟩⟩ 1714)⟩,⟨(.ofNat 120344),(.int (.ofNat 120344) 1716),(.str ⟨⟨[113]⟩⟩ 1717)⟩]⟩ 17),⟨[]⟩⟩
noncomputable def o123 (P : Params) : Obj := ⟨(.type "dict"),none,(.dict ⟨[⟨(.ofNat 120345),(.int (.ofNat 120345) 1719),(.str ⟨⟨[114]⟩⟩ 1720)⟩,⟨(.ofNat 120346),(.int (.ofNat 120346) 1722),(.str ⟨⟨[115]⟩⟩ 1723)⟩,⟨(.ofNat 120347),(.int (.ofNat 120347) 1725),(.str ⟨⟨[116]⟩⟩ 1726)⟩,⟨(.ofNat 120348),(.int (.ofNat 120348) 1728),(.str ⟨⟨[117]⟩⟩ 1729)⟩,⟨(.ofNat 120349),(.int (.ofNat 120349) 1731),(.str ⟨⟨[118]⟩⟩ 1732)⟩,⟨(.ofNat 120350),(.int (.ofNat 120350) 1734),(.str ⟨⟨[119]⟩⟩ 1735)⟩,⟨(.ofNat 120351),(.int (.ofNat 120351) 1737),(.str ⟨⟨[120]⟩⟩ 1738)⟩,⟨(.ofNat 120352),(.int (.ofNat 120352) 1740),(.str ⟨⟨[121]⟩⟩ 1741)⟩,⟨(.ofNat 120353),(.int (.ofNat 120353) 1743),(.str ⟨⟨[122]⟩⟩ 1744)⟩,⟨(.ofNat 120380),(.int (.ofNat 120380) 1746),(.str ⟨⟨[97]⟩⟩ 1747)⟩,⟨(.ofNat 120381),(.int (.ofNat 120381) 1749),(.str ⟨⟨[98]⟩⟩ 1750)⟩,⟨(.ofNat 120382),(.int (.ofNat 120382) 1752),(.str ⟨⟨[99]⟩⟩ 1753)⟩,⟨(.ofNat 120383),(.int (.ofNat 120383) 1755),(.str ⟨⟨[100]⟩⟩ 1756)⟩,⟨(.ofNat 120384),(.int (.ofNat 120384) 1758),(.str ⟨⟨[101]⟩⟩ 1759)⟩,⟨(.ofNat 120385),(.int (.ofNat 120385) 1761),(.str ⟨⟨[102]⟩⟩ 1762)⟩,⟨(.ofNat 120386),(.int (.ofNat 120386) 1764),(.str ⟨⟨[103]⟩⟩ 1765)⟩,⟨(.ofNat 120387),(.int (.ofNat 120387) 1767),(.str ⟨⟨[104]⟩⟩ 1768)⟩]⟩ 17),⟨[]⟩⟩
noncomputable def o124 (P : Params) : Obj := ⟨(.type "dict"),none,(.dict ⟨[⟨(.ofNat 120388),(.int (.ofNat 120388) 1770),(.str ⟨⟨[105]⟩⟩ 1771)⟩,⟨(.ofNat 120389),(.int (.ofNat 120389) 1773),(.str ⟨⟨[106]⟩⟩ 1774)⟩,⟨(.ofNat 120390),(.int (.ofNat 120390) 1776),(.str ⟨⟨[107]⟩⟩ 1777)⟩,⟨(.ofNat 120391),(.int (.ofNat 120391) 1779),(.str ⟨⟨[108]⟩⟩ 1780)⟩,⟨(.ofNat 120392),(.int (.ofNat 120392) 1782),(.str ⟨⟨[109]⟩⟩ 1783)⟩,⟨(.ofNat 120393),(.int (.ofNat 120393) 1785),(.str ⟨⟨[110]⟩⟩ 1786)⟩,⟨(.ofNat 120394),(.int (.ofNat 120394) 1788),(.str ⟨⟨[111]⟩⟩ 1789)⟩,⟨(.ofNat 120395),(.int (.ofNat 120395) 1791),(.str ⟨⟨[112]⟩⟩ 1792)⟩,⟨(.ofNat 120396),(.int (.ofNat 120396) 1794),(.str ⟨⟨[113]⟩⟩ 1795)⟩,⟨(.ofNat 120397),(.int (.ofNat 120397) 1797),(.str ⟨⟨[114]⟩⟩ 1798)⟩,⟨(.ofNat 120398),(.int (.ofNat 120398) 1800),(.str ⟨⟨[115]⟩⟩ 1801)⟩,⟨(.ofNat 120399),(.int (.ofNat 120399) 1803),(.str ⟨⟨[116]⟩⟩ 1804)⟩,⟨(.ofNat 120400),(.int (.ofNat 120400) 1806),(.str ⟨⟨[117]⟩⟩ 1807)⟩,⟨(.ofNat 120401),(.int (.ofNat 120401) 1809),(.str ⟨⟨[118]⟩⟩ 1810)⟩,⟨(.ofNat 120402),(.int (.ofNat 120402) 1812),(.str ⟨⟨[119]⟩⟩ 1813)⟩,⟨(.ofNat 120403),(.int (.ofNat 120403) 1815),(.str ⟨⟨[120]⟩⟩ 1816)⟩,⟨(.ofNat 120404),(.int (.ofNat 120404) 1818),(.str ⟨⟨[121]⟩⟩ 1819)⟩]⟩ 17),⟨[]⟩⟩
noncomputable def o125 (P : Params) : Obj := ⟨(.type "dict"),none,(.dict ⟨[⟨(.ofNat 120405),(.int (.ofNat 120405) 1821),(.str ⟨⟨[122]⟩⟩ 1822)⟩,⟨(.ofNat 120432),(.int (.ofNat 120432) 1824),(.str ⟨⟨[97]⟩⟩ 1825)⟩,⟨(.ofNat 120433),(.int (.ofNat 120433) 1827),(.str ⟨⟨[98]⟩⟩ 1828)⟩,⟨(.ofNat 120434),(.int (.ofNat 120434) 1830),(.str ⟨⟨[99]⟩⟩ 1831)⟩,⟨(.ofNat 120435),(.int (.ofNat 120435) 1833),(.str ⟨⟨[100]⟩⟩ 1834)⟩,⟨(.ofNat 120436),(.int (.ofNat 120436) 1836),(.str ⟨⟨[101]⟩⟩ 1837)⟩,⟨(.ofNat 120437),(.int (.ofNat 120437) 1839),(.str ⟨⟨[102]⟩⟩ 1840)⟩,⟨(.ofNat 120438),(.int (.ofNat 120438) 1842),(.str ⟨⟨[103]⟩⟩ 1843)⟩,⟨(.ofNat 120439),(.int (.ofNat 120439) 1845),(.str ⟨⟨[104]⟩⟩ 1846)⟩,⟨(.ofNat 120440),(.int (.ofNat 120440) 1848),(.str ⟨⟨[105]⟩⟩ 1849)⟩,⟨(.ofNat 120441),(.int (.ofNat 120441) 1851),(.str ⟨⟨[106]⟩⟩ 1852)⟩,⟨(.ofNat 120442),(.int (.ofNat 120442) 1854),(.str ⟨⟨[107]⟩⟩ 1855)⟩,⟨(.ofNat 120443),(.int (.ofNat 120443) 1857),(.str ⟨⟨[108]⟩⟩ 1858)⟩,⟨(.ofNat 120444),(.int (.ofNat 120444) 1860),(.str ⟨⟨[109]⟩⟩ 1861)⟩,⟨(.ofNat 120445),(.int (.ofNat 120445) 1863),(.str ⟨⟨[110]⟩⟩ 1864)⟩,⟨(.ofNat 120446),(.int (.ofNat 120446) 1866),(.str ⟨⟨[111]⟩⟩ 1867)⟩,⟨(.ofNat 120447),(.int (.ofNat 120447) 1869),(.str ⟨⟨[112]⟩⟩ 1870)⟩]⟩ 17),⟨[]⟩⟩
noncomputable def o126 (P : Params) : Obj := ⟨(.type "dict"),none,(.dict ⟨[⟨(.ofNat 120448),(.int (.ofNat 120448) 1872),(.str ⟨⟨[113]⟩⟩ 1873)⟩,⟨(.ofNat 120449),(.int (.ofNat 120449) 1875),(.str ⟨⟨[114]⟩⟩ 1876)⟩,⟨(.ofNat 120450),(.int (.ofNat 120450) 1878),(.str ⟨⟨[115]⟩⟩ 1879)⟩,⟨(.ofNat 120451),(.int (.ofNat 120451) 1881),(.str ⟨⟨[116]⟩⟩ 1882)⟩,⟨(.ofNat 120452),(.int (.ofNat 120452) 1884),(.str ⟨⟨[117]⟩⟩ 1885)⟩,⟨(.ofNat 120453),(.int (.ofNat 120453) 1887),(.str ⟨⟨[118]⟩⟩ 1888)⟩,⟨(.ofNat 120454),(.int (.ofNat 120454) 1890),(.str ⟨⟨[119]⟩⟩ 1891)⟩,⟨(.ofNat 120455),(.int (.ofNat 120455) 1893),(.str ⟨⟨[120]⟩⟩ 1894)⟩,⟨(.ofNat 120456),(.int (.ofNat 120456) 1896),(.str ⟨⟨[121]⟩⟩ 1897)⟩,⟨(.ofNat 120457),(.int (.ofNat 120457) 1899),(.str ⟨⟨[122]⟩⟩ 1900)⟩,⟨(.ofNat 120488),(.int (.ofNat 120488) 1902),(.str ⟨⟨[945]⟩⟩ 1903)⟩,⟨(.ofNat 120489),(.int (.ofNat 120489) 1905),(.str ⟨⟨[946]⟩⟩ 1906)⟩,⟨(.ofNat 120490),(.int (.ofNat 120490) 1908),(.str ⟨⟨[947]⟩⟩ 1909)⟩,⟨(.ofNat 120491),(.int (.ofNat 120491) 1911),(.str ⟨⟨[948]⟩⟩ 1912)⟩,⟨(.ofNat 120492),(.int (.ofNat 120492) 1914),(.str ⟨⟨[949]⟩⟩ 1915)⟩,⟨(.ofNat 120493),(.int (.ofNat 120493) 1917),(.str ⟨⟨[950]⟩⟩ 1918)⟩,⟨(.ofNat 120494),(.int (.ofNat 120494) 1920),(.str ⟨⟨[951]⟩⟩ 1921)⟩]⟩ 17),⟨[]⟩⟩
noncomputable def o127 (P : Params) : Obj := ⟨(.type "dict"),none,(.dict ⟨[⟨(.ofNat 120495),(.int (.ofNat 120495) 1923),(.str ⟨⟨[952]⟩⟩ 1924)⟩,⟨(.ofNat 120496),(.int (.ofNat 120496) 1926),(.str ⟨⟨[953]⟩⟩ 1927)⟩,⟨(.ofNat 120497),(.int (.ofNat 120497) 1929),(.str ⟨⟨[954]⟩⟩ 1930)⟩,⟨(.ofNat 120498),(.int (.ofNat 120498) 1932),(.str ⟨⟨[955]⟩⟩ 1933)⟩,⟨(.ofNat 120499),(.int (.ofNat 120499) 1935),(.str ⟨⟨[956]⟩⟩ 1936)⟩,⟨(.ofNat 120500),(.int (.ofNat 120500) 1938),(.str ⟨⟨[957]⟩⟩ 1939)⟩,⟨(.ofNat 120501),(.int (.ofNat 120501) 1941),(.str ⟨⟨[958]⟩⟩ 1942)⟩,⟨(.ofNat 120502),(.int (.ofNat 120502) 1944),(.str ⟨⟨[959]⟩⟩ 1945)⟩,⟨(.ofNat 120503),(.int (.ofNat 120503) 1947),(.str ⟨⟨[960]⟩⟩ 1948)⟩,⟨(.ofNat 120504),(.int (.ofNat 120504) 1950),(.str ⟨⟨[961]⟩⟩ 1951)⟩,⟨(.ofNat 120505),(.int (.ofNat 120505) 1953),(.str ⟨⟨[952]⟩⟩ 1954)⟩,⟨(.ofNat 120506),(.int (.ofNat 120506) 1956),(.str ⟨⟨[963]⟩⟩ 1957)⟩,⟨(.ofNat 120507),(.int (.ofNat 120507) 1959),(.str ⟨⟨[964]⟩⟩ 1960)⟩,⟨(.ofNat 120508),(.int (.ofNat 120508) 1962),(.str ⟨⟨[965]⟩⟩ 1963)⟩,⟨(.ofNat 120509),(.int (.ofNat 120509) 1965),(.str ⟨⟨[966]⟩⟩ 1966)⟩,⟨(.ofNat 120510),(.int (.ofNat 120510) 1968),(.str ⟨⟨[967]⟩⟩ 1969)⟩,⟨(.ofNat 120511),(.int (.ofNat 120511) 1971),(.str ⟨⟨[968]⟩⟩ 1972)⟩]⟩ 17),⟨[]⟩⟩
noncomputable def o128 (P : Params) : Obj := ⟨(.type "dict"),none,(.dict ⟨[⟨(.ofNat 120512),(.int (.ofNat 120512) 1974),(.str ⟨⟨[969]⟩⟩ 1975)⟩,⟨(.ofNat 120531),(.int (.ofNat 120531) 1977),(.str ⟨⟨[963]⟩⟩ 1978)⟩,⟨(.ofNat 120546),(.int (.ofNat 120546) 1980),(.str ⟨⟨[945]⟩⟩ 1981)⟩,⟨(.ofNat 120547),(.int (.ofNat 120547) 1983),(.str ⟨⟨[946]⟩⟩ 1984)⟩,⟨(.ofNat 120548),(.int (.ofNat 120548) 1986),(.str ⟨⟨[947]⟩⟩ 1987)⟩,⟨(.ofNat 120549),(.int (.ofNat 120549) 1989),(.str ⟨⟨[948]⟩⟩ 1990)⟩,⟨(.ofNat 120550),(.int (.ofNat 120550) 1992),(.str ⟨⟨[949]⟩⟩ 1993)⟩,⟨(.ofNat 120551),(.int (.ofNat 120551) 1995),(.str ⟨⟨[950]⟩⟩ 1996)⟩,⟨(.ofNat 120552),(.int (.ofNat 120552) 1998),(.str ⟨⟨[951]⟩⟩ 1999)⟩,⟨(.ofNat 120553),(.int (.ofNat 120553) 2001),(.str ⟨⟨[952]⟩⟩ 2002)⟩,⟨(.ofNat 120554),(.int (.ofNat 120554) 2004),(.str ⟨⟨[953]⟩⟩ 2005)⟩,⟨(.ofNat 120555),(.int (.ofNat 120555) 2007),(.str ⟨⟨[954]⟩⟩ 2008)⟩,⟨(.ofNat 120556),(.int (.ofNat 120556) 2010),(.str ⟨⟨[955]⟩⟩ 2011)⟩,⟨(.ofNat 120557),(.int (.ofNat 120557) 2013),(.str ⟨⟨[956]⟩⟩ 2014)⟩,⟨(.ofNat 120558),(.int (.ofNat 120558) 2016),(.str ⟨⟨[957]⟩⟩ 2017)⟩,⟨(.ofNat 120559),(.int (.ofNat 120559) 2019),(.str ⟨⟨[958]⟩⟩ 2020)⟩,⟨(.ofNat 120560),(.int (.ofNat 120560) 2022),(.str ⟨⟨[959]⟩⟩ 2023)⟩]⟩ 17),⟨[]⟩⟩
noncomputable def o129 (P : Params) : Obj := ⟨(.type "dict"),none,(.dict ⟨[⟨(.ofNat 120561),(.int (.ofNat 120561) 2025),(.str ⟨⟨[960]⟩⟩ 2026)⟩,⟨(.ofNat 120562),(.int (.ofNat 120562) 2028),(.str ⟨⟨[961]⟩⟩ 2029)⟩,⟨(.ofNat 120563),(.int (.ofNat 120563) 2031),(.str ⟨⟨[952]⟩⟩ 2032)⟩,⟨(.ofNat 120564),(.int (.ofNat 120564) 2034),(.str ⟨⟨[963]⟩⟩ 2035)⟩,⟨(.ofNat 120565),(.int (.ofNat 120565) 2037),(.str ⟨⟨[964]⟩⟩ 2038)⟩,⟨(.ofNat 120566),(.int (.ofNat 120566) 2040),(.str ⟨⟨[965]⟩⟩ 2041)⟩,⟨(.ofNat 120567),(.int (.ofNat 120567) 2043),(.str ⟨⟨[966]⟩⟩ 2044)⟩,⟨(.ofNat 120568),(.int (.ofNat 120568) 2046),(.str ⟨⟨[967]⟩⟩ 2047)⟩,⟨(.ofNat 120569),(.int (.ofNat 120569) 2049),(.str ⟨⟨[968]⟩⟩ 2050)⟩,⟨(.ofNat 120570),(.int (.ofNat 120570) 2052),(.str ⟨⟨[969]⟩⟩ 2053)⟩,⟨(.ofNat 120589),(.int (.ofNat 120589) 2055),(.str ⟨⟨[963]⟩⟩ 2056)⟩,⟨(.ofNat 120604),(.int (.ofNat 120604) 2058),(.str ⟨⟨[945]⟩⟩ 2059)⟩,⟨(.ofNat 120605),(.int (.ofNat 120605) 2061),(.str ⟨⟨[946]⟩⟩ 2062)⟩,⟨(.ofNat 120606),(.int (.ofNat 120606) 2064),(.str ⟨⟨[947]⟩⟩ 2065)⟩,⟨(.ofNat 120607),(.int (.ofNat 120607) 2067),(.str ⟨⟨[948]⟩⟩ 2068)⟩,⟨(.ofNat 120608),(.int (.ofNat 120608) 2070),(.str ⟨⟨[949]⟩⟩ 2071)⟩,⟨(.ofNat 120609),(.int (.ofNat 120609) 2073),(.str ⟨⟨[950]⟩⟩ 2074)⟩]⟩ 17),⟨[]⟩⟩
noncomputable def o130 (P : Params) : Obj := ⟨(.type "dict"),none,(.dict ⟨[⟨(.ofNat 120610),(.int (.ofNat 120610) 2076),(.str ⟨⟨[951]⟩⟩ 2077)⟩,⟨(.ofNat 120611),(.int (.ofNat 120611) 2079),(.str ⟨⟨[952]⟩⟩ 2080)⟩,⟨(.ofNat 120612),(.int (.ofNat 120612) 2082),(.str ⟨⟨[953]⟩⟩ 2083)⟩,⟨(.ofNat 120613),(.int (.ofNat 120613) 2085),(.str ⟨⟨[954]⟩⟩ 2086)⟩,⟨(.ofNat 120614),(.int (.ofNat 120614) 2088),(.str ⟨⟨[955]⟩⟩ 2089)⟩,⟨(.ofNat 120615),(.int (.ofNat 120615) 2091),(.str ⟨⟨[956]⟩⟩ 2092)⟩,⟨(.ofNat 120616),(.int (.ofNat 120616) 2094),(.str ⟨⟨[957]⟩⟩ 2095)⟩,⟨(.ofNat 120617),(.int (.ofNat 120617) 2097),(.str ⟨⟨[958]⟩⟩ 2098)⟩,⟨(.ofNat 120618),(.int (.ofNat 120618) 2100),(.str ⟨⟨[959]⟩⟩ 2101)⟩,⟨(.ofNat 120619),(.int (.ofNat 120619) 2103),(.str ⟨⟨[960]⟩⟩ 2104)⟩,⟨(.ofNat 120620),(.int (.ofNat 120620) 2106),(.str ⟨⟨[961]⟩⟩ 2107)⟩,⟨(.ofNat 120621),(.int (.ofNat 120621) 2109),(.str ⟨⟨[952]⟩⟩ 2110)⟩,⟨(.ofNat 120622),(.int (.ofNat 120622) 2112),(.str ⟨⟨[963]⟩⟩ 2113)⟩,⟨(.ofNat 120623),(.int (.ofNat 120623) 2115),(.str ⟨⟨[964]⟩⟩ 2116)⟩,⟨(.ofNat 120624),(.int (.ofNat 120624) 2118),(.str ⟨⟨[965]⟩⟩ 2119)⟩,⟨(.ofNat 120625),(.int (.ofNat 120625) 2121),(.str ⟨⟨[966]⟩⟩ 2122)⟩,⟨(.ofNat 120626),(.int (.ofNat 120626) 2124),(.str ⟨⟨[967]⟩⟩ 2125)⟩]⟩ 17),⟨[]⟩⟩
noncomputable def o131 (P : Params) : Obj := ⟨(.type "dict"),none,(.dict ⟨[⟨(.ofNat 120627),(.int (.ofNat 120627) 2127),(.str ⟨⟨[968]⟩⟩ 2128)⟩,⟨(.ofNat 120628),(.int (.ofNat 120628) 2130),(.str ⟨⟨[969]⟩⟩ 2131)⟩,⟨(.ofNat 120647),(.int (.ofNat 120647) 2133),(.str ⟨⟨[963]⟩⟩ 2134)⟩,⟨(.ofNat 120662),(.int (.ofNat 120662) 2136),(.str ⟨⟨[945]⟩⟩ 2137)⟩,⟨(.ofNat 120663),(.int (.ofNat 120663) 2139),(.str ⟨⟨[946]⟩⟩ 2140)⟩,⟨(.ofNat 120664),(.int (.ofNat 120664) 2142),(.str ⟨⟨[947]⟩⟩ 2143)⟩,⟨(.ofNat 120665),(.int (.ofNat 120665) 2145),(.str ⟨⟨[948]⟩⟩ 2146)⟩,⟨(.ofNat 120666),(.int (.ofNat 120666) 2148),(.str ⟨⟨[949]⟩⟩ 2149)⟩,⟨(.ofNat 120667),(.int (.ofNat 120667) 2151),(.str ⟨⟨[950]⟩⟩ 2152)⟩,⟨(.ofNat 120668),(.int (.ofNat 120668) 2154),(.str ⟨⟨[951]⟩⟩ 2155)⟩,⟨(.ofNat 120669),(.int (.ofNat 120669) 2157),(.str ⟨⟨[952]⟩⟩ 2158)⟩,⟨(.ofNat 120670),(.int (.ofNat 120670) 2160),(.str ⟨⟨[953]⟩⟩ 2161)⟩,⟨(.ofNat 120671),(.int (.ofNat 120671) 2163),(.str ⟨⟨[954]⟩⟩ 2164)⟩,⟨(.ofNat 120672),(.int (.ofNat 120672) 2166),(.str ⟨⟨[955]⟩⟩ 2167)⟩,⟨(.ofNat 120673),(.int (.ofNat 120673) 2169),(.str ⟨⟨[956]⟩⟩ 2170)⟩,⟨(.ofNat 120674),(.int (.ofNat 120674) 2172),(.str ⟨⟨[957]⟩⟩ 2173)⟩,⟨(.ofNat 120675),(.int (.ofNat 120675) 2175),(.str ⟨⟨[958]⟩⟩ 2176)⟩]⟩ 17),⟨[]⟩⟩
noncomputable def o132 (P : Params) : Obj := ⟨(.type "dict"),none,(.dict ⟨[⟨(.ofNat 120676),(.int (.ofNat 120676) 2178),(.str ⟨⟨[959]⟩⟩ 2179)⟩,⟨(.ofNat 120677),(.int (.ofNat 120677) 2181),(.str ⟨⟨[960]⟩⟩ 2182)⟩,⟨(.ofNat 120678),(.int (.ofNat 120678) 2184),(.str ⟨⟨[961]⟩⟩ 2185)⟩,⟨(.ofNat 120679),(.int (.ofNat 120679) 2187),(.str ⟨⟨[952]⟩⟩ 2188)⟩,⟨(.ofNat 120680),(.int (.ofNat 120680) 2190),(.str ⟨⟨[963]⟩⟩ 2191)⟩,⟨(.ofNat 120681),(.int (.ofNat 120681) 2193),(.str ⟨⟨[964]⟩⟩ 2194)⟩,⟨(.ofNat 120682),(.int (.ofNat 120682) 2196),(.str ⟨⟨[965]⟩⟩ 2197)⟩,⟨(.ofNat 120683),(.int (.ofNat 120683) 2199),(.str ⟨⟨[966]⟩⟩ 2200)⟩,⟨(.ofNat 120684),(.int (.ofNat 120684) 2202),(.str ⟨⟨[967]⟩⟩ 2203)⟩,⟨(.ofNat 120685),(.int (.ofNat 120685) 2205),(.str ⟨⟨[968]⟩⟩ 2206)⟩,⟨(.ofNat 120686),(.int (.ofNat 120686) 2208),(.str ⟨⟨[969]⟩⟩ 2209)⟩,⟨(.ofNat 120705),(.int (.ofNat 120705) 2211),(.str ⟨⟨[963]⟩⟩ 2212)⟩,⟨(.ofNat 120720),(.int (.ofNat 120720) 2214),(.str ⟨⟨[945]⟩⟩ 2215)⟩,⟨(.ofNat 120721),(.int (.ofNat 120721) 2217),(.str ⟨⟨[946]⟩⟩ 2218)⟩,⟨(.ofNat 120722),(.int (.ofNat 120722) 2220),(.str ⟨⟨[947]⟩⟩ 2221)⟩,⟨(.ofNat 120723),(.int (.ofNat 120723) 2223),(.str ⟨⟨[948]⟩⟩ 2224)⟩,⟨(.ofNat 120724),(.int (.ofNat 120724) 2226),(.str ⟨⟨[949]⟩⟩ 2227)⟩]⟩ 17),⟨[]⟩⟩
noncomputable def o133 (P : Params) : Obj := ⟨(.type "dict"),none,(.dict ⟨[⟨(.ofNat 120725),(.int (.ofNat 120725) 2229),(.str ⟨⟨[950]⟩⟩ 2230)⟩,⟨(.ofNat 120726),(.int (.ofNat 120726) 2232),(.str ⟨⟨[951]⟩⟩ 2233)⟩,⟨(.ofNat 120727),(.int (.ofNat 120727) 2235),(.str ⟨⟨[952]⟩⟩ 2236)⟩,⟨(.ofNat 120728),(.int (.ofNat 120728) 2238),(.str ⟨⟨[953]⟩⟩ 2239)⟩,⟨(.ofNat 120729),(.int (.ofNat 120729) 2241),(.str ⟨⟨[954]⟩⟩ 2242)⟩,⟨(.ofNat 120730),(.int (.ofNat 120730) 2244),(.str ⟨⟨[955]⟩⟩ 2245)⟩,⟨(.ofNat 120731),(.int (.ofNat 120731) 2247),(.str ⟨⟨[956]⟩⟩ 2248)⟩,⟨(.ofNat 120732),(.int (.ofNat 120732) 2250),(.str ⟨⟨[957]⟩⟩ 2251)⟩,⟨(.ofNat 120733),(.int (.ofNat 120733) 2253),(.str ⟨⟨[958]⟩⟩ 2254)⟩,⟨(.ofNat 120734),(.int (.ofNat 120734) 2256),(.str ⟨⟨[959]⟩⟩ 2257)⟩,⟨(.ofNat 120735),(.int (.ofNat 120735) 2259),(.str ⟨⟨[960]⟩⟩ 2260)⟩,⟨(.ofNat 120736),(.int (.ofNat 120736) 2262),(.str ⟨⟨[961]⟩⟩ 2263)⟩,⟨(.ofNat 120737),(.int (.ofNat 120737) 2265),(.str ⟨⟨[952]⟩⟩ 2266)⟩,⟨(.ofNat 120738),(.int (.ofNat 120738) 2268),(.str ⟨⟨[963]⟩⟩ 2269)⟩,⟨(.ofNat 120739),(.int (.ofNat 120739) 2271),(.str ⟨⟨[964]⟩⟩ 2272)⟩,⟨(.ofNat 120740),(.int (.ofNat 120740) 2274),(.str ⟨⟨[965]⟩⟩ 2275)⟩,⟨(.ofNat 120741),(.int (.ofNat 120741) 2277),(.str ⟨⟨[966]⟩⟩ 2278)⟩]⟩ 17),⟨[]⟩⟩
noncomputable def o134 (P : Params) : Obj := ⟨(.type "dict"),none,(.dict ⟨[⟨(.ofNat 120742),(.int (.ofNat 120742) 2280),(.str ⟨⟨[967]⟩⟩ 2281)⟩,⟨(.ofNat 120743),(.int (.ofNat 120743) 2282),(.str ⟨⟨[968]⟩⟩ 2283)⟩,⟨(.ofNat 120744),(.int (.ofNat 120744) 2284),(.str ⟨⟨[969]⟩⟩ 2285)⟩,⟨(.ofNat 120763),(.int (.ofNat 120763) 2286),(.str ⟨⟨[963]⟩⟩ 2287)⟩]⟩ 4),⟨[]⟩⟩
noncomputable def o135 (P : Params) : Obj := ⟨(.type "tuple"),none,(.seq ⟨[]⟩ 0),⟨[]⟩⟩
noncomputable def o136 (P : Params) : Obj := ⟨.none,none,(.fields ⟨[]⟩),⟨[]⟩⟩
noncomputable def o137 (P : Params) : Obj := ⟨(.type "tuple"),none,(.seq ⟨[(.str ⟨⟨[99,111,100,101]⟩⟩ 2296),(.str ⟨⟨[114]⟩⟩ 2297)]⟩ 0),⟨[]⟩⟩
noncomputable def o138 (P : Params) : Obj := ⟨(.type "tuple"),none,(.seq ⟨[]⟩ 0),⟨[]⟩⟩
noncomputable def o139 (P : Params) : Obj := ⟨.none,none,(.func ⟨⟨⟨[109,97,112,95,116,97,98,108,101,95,98,51]⟩⟩,⟨⟨[109,97,112,95,116,97,98,108,101,95,98,51]⟩⟩,(fdp (st 10)).1,.stmts (fdp (st 10)).2.1,(fdp (st 10)).2.2,0,[],.none,.none,.none,.none,none,.none,.none,0⟩),⟨[]⟩⟩
noncomputable def o140 (P : Params) : Obj := ⟨(.type "code"),none,(.fields ⟨[(.str ⟨⟨[109,97,112,95,116,97,98,108,101,95,98,51]⟩⟩ 2293),(.str ⟨⟨[109,97,112,95,116,97,98,108,101,95,98,51]⟩⟩ 2294),(.str ⟨⟨[47,99,108,97,105,109,47,99,117,116,46,112,121]⟩⟩ 2295),(.int (.ofNat 57) 0),(.int (.ofNat 1) 0),(.int (.ofNat 0) 0),(.int (.ofNat 0) 0),(.int (.ofNat 3) 0),(.ref 135),(.bool true),(.int (.ofNat 181) 0),(.ref 136),.none,(.ref 137),(.ref 138),(.ref 139),(.int (.ofNat 2298) 0),(.int (.ofNat 57) 0),(.str ⟨⟨[47,99,108,97,105,109,47,99,117,116,46,112,121]⟩⟩ 2299)]⟩),⟨[]⟩⟩
noncomputable def o141 (P : Params) : Obj := ⟨(.type "function"),none,(.func ⟨⟨⟨[109,97,112,95,116,97,98,108,101,95,98,51]⟩⟩,⟨⟨[109,97,112,95,116,97,98,108,101,95,98,51]⟩⟩,(fdp (st 10)).1,.stmts (fdp (st 10)).2.1,(fdp (st 10)).2.2,3,[],.none,.none,.none,(.str ⟨⟨[99,112,121,51,49,51,46,115,116,114,105,110,103,112,114,101,112]⟩⟩ 273),none,(.ref 140),.none,0⟩),⟨[]⟩⟩
noncomputable def o142 (P : Params) : Obj := ⟨(.type "tuple"),none,(.seq ⟨[]⟩ 0),⟨[]⟩⟩
noncomputable def o143 (P : Params) : Obj := ⟨.none,none,(.fields ⟨[]⟩),⟨[]⟩⟩
noncomputable def o144 (P : Params) : Obj := ⟨(.type "tuple"),none,(.seq ⟨[(.str ⟨⟨[116,101,120,116]⟩⟩ 2306),(.str ⟨⟨[115,116,114,101,97,109]⟩⟩ 2307)]⟩ 0),⟨[]⟩⟩
noncomputable def o145 (P : Params) : Obj := ⟨(.type "tuple"),none,(.seq ⟨[(.str ⟨⟨[115,105,103,110,115]⟩⟩ 2308)]⟩ 0),⟨[]⟩⟩
noncomputable def o146 (P : Params) : Obj := ⟨.none,none,(.func ⟨⟨⟨[95,108,97,119,95,108,101,120,101,114]⟩⟩,⟨⟨[95,108,97,119,95,108,101,120,101,114]⟩⟩,(fdp (st 12)).1,.stmts (fdp (st 12)).2.1,(fdp (st 12)).2.2,0,[],.none,.none,.none,.none,none,.none,.none,0⟩),⟨[]⟩⟩
noncomputable def o147 (P : Params) : Obj := ⟨(.type "code"),none,(.fields ⟨[(.str ⟨⟨[95,108,97,119,95,108,101,120,101,114]⟩⟩ 2303),(.str ⟨⟨[95,108,97,119,95,108,101,120,101,114]⟩⟩ 2304),(.str ⟨⟨[47,99,108,97,105,109,47,99,117,116,46,112,121]⟩⟩ 2305),(.int (.ofNat 63) 0),(.int (.ofNat 1) 0),(.int (.ofNat 0) 0),(.int (.ofNat 0) 0),(.int (.ofNat 3) 0),(.ref 142),(.bool true),(.int (.ofNat 181) 0),(.ref 143),.none,(.ref 144),(.ref 145),(.ref 146),(.int (.ofNat 2309) 0),(.int (.ofNat 63) 0),(.str ⟨⟨[47,99,108,97,105,109,47,99,117,116,46,112,121]⟩⟩ 2310)]⟩),⟨[]⟩⟩
noncomputable def o148 (P : Params) : Obj := ⟨(.type "function"),none,(.func ⟨⟨⟨[95,108,97,119,95,108,101,120,101,114]⟩⟩,⟨⟨[95,108,97,119,95,108,101,120,101,114]⟩⟩,(fdp (st 12)).1,.stmts (fdp (st 12)).2.1,(fdp (st 12)).2.2,3,[],.none,.none,.none,(.str ⟨⟨[108,97,119,95,116,111,48,48,51,53,95,48,49]⟩⟩ 2301),none,(.ref 147),.none,0⟩),⟨[]⟩⟩
noncomputable def o149 (P : Params) : Obj := ⟨(.type "tuple"),none,(.seq ⟨[]⟩ 0),⟨[]⟩⟩
noncomputable def o150 (P : Params) : Obj := ⟨.none,none,(.fields ⟨[]⟩),⟨[]⟩⟩
noncomputable def o151 (P : Params) : Obj := ⟨(.type "tuple"),none,(.seq ⟨[(.str ⟨⟨[107]⟩⟩ 2315)]⟩ 0),⟨[]⟩⟩
noncomputable def o152 (P : Params) : Obj := ⟨(.type "tuple"),none,(.seq ⟨[]⟩ 0),⟨[]⟩⟩
noncomputable def o153 (P : Params) : Obj := ⟨.none,none,(.func ⟨⟨⟨[95,108,97,119,95,104,105,100,100,101,110]⟩⟩,⟨⟨[95,108,97,119,95,104,105,100,100,101,110]⟩⟩,(fdp (st 13)).1,.stmts (fdp (st 13)).2.1,(fdp (st 13)).2.2,0,[],.none,.none,.none,.none,none,.none,.none,0⟩),⟨[]⟩⟩
noncomputable def o154 (P : Params) : Obj := ⟨(.type "code"),none,(.fields ⟨[(.str ⟨⟨[95,108,97,119,95,104,105,100,100,101,110]⟩⟩ 2312),(.str ⟨⟨[95,108,97,119,95,104,105,100,100,101,110]⟩⟩ 2313),(.str ⟨⟨[47,99,108,97,105,109,47,99,117,116,46,112,121]⟩⟩ 2314),(.int (.ofNat 69) 0),(.int (.ofNat 1) 0),(.int (.ofNat 0) 0),(.int (.ofNat 0) 0),(.int (.ofNat 3) 0),(.ref 149),(.bool true),(.int (.ofNat 181) 0),(.ref 150),.none,(.ref 151),(.ref 152),(.ref 153),(.int (.ofNat 2316) 0),(.int (.ofNat 69) 0),(.str ⟨⟨[47,99,108,97,105,109,47,99,117,116,46,112,121]⟩⟩ 2317)]⟩),⟨[]⟩⟩
noncomputable def o155 (P : Params) : Obj := ⟨(.type "function"),none,(.func ⟨⟨⟨[95,108,97,119,95,104,105,100,100,101,110]⟩⟩,⟨⟨[95,108,97,119,95,104,105,100,100,101,110]⟩⟩,(fdp (st 13)).1,.stmts (fdp (st 13)).2.1,(fdp (st 13)).2.2,3,[],.none,.none,.none,(.str ⟨⟨[108,97,119,95,116,111,48,48,51,53,95,48,49]⟩⟩ 2301),none,(.ref 154),.none,0⟩),⟨[]⟩⟩
noncomputable def o156 (P : Params) : Obj := ⟨(.type "tuple"),none,(.seq ⟨[]⟩ 0),⟨[]⟩⟩
noncomputable def o157 (P : Params) : Obj := ⟨.none,none,(.fields ⟨[]⟩),⟨[]⟩⟩
noncomputable def o158 (P : Params) : Obj := ⟨(.type "tuple"),none,(.seq ⟨[(.str ⟨⟨[107]⟩⟩ 2322)]⟩ 0),⟨[]⟩⟩
noncomputable def o159 (P : Params) : Obj := ⟨(.type "tuple"),none,(.seq ⟨[]⟩ 0),⟨[]⟩⟩
noncomputable def o160 (P : Params) : Obj := ⟨.none,none,(.func ⟨⟨⟨[95,108,97,119,95,98,101,115,105,100,101]⟩⟩,⟨⟨[95,108,97,119,95,98,101,115,105,100,101]⟩⟩,(fdp (st 14)).1,.stmts (fdp (st 14)).2.1,(fdp (st 14)).2.2,0,[],.none,.none,.none,.none,none,.none,.none,0⟩),⟨[]⟩⟩
noncomputable def o161 (P : Params) : Obj := ⟨(.type "code"),none,(.fields ⟨[(.str ⟨⟨[95,108,97,119,95,98,101,115,105,100,101]⟩⟩ 2319),(.str ⟨⟨[95,108,97,119,95,98,101,115,105,100,101]⟩⟩ 2320),(.str ⟨⟨[47,99,108,97,105,109,47,99,117,116,46,112,121]⟩⟩ 2321),(.int (.ofNat 73) 0),(.int (.ofNat 1) 0),(.int (.ofNat 0) 0),(.int (.ofNat 0) 0),(.int (.ofNat 3) 0),(.ref 156),(.bool true),(.int (.ofNat 181) 0),(.ref 157),.none,(.ref 158),(.ref 159),(.ref 160),(.int (.ofNat 2323) 0),(.int (.ofNat 73) 0),(.str ⟨⟨[47,99,108,97,105,109,47,99,117,116,46,112,121]⟩⟩ 2324)]⟩),⟨[]⟩⟩
noncomputable def o162 (P : Params) : Obj := ⟨(.type "function"),none,(.func ⟨⟨⟨[95,108,97,119,95,98,101,115,105,100,101]⟩⟩,⟨⟨[95,108,97,119,95,98,101,115,105,100,101]⟩⟩,(fdp (st 14)).1,.stmts (fdp (st 14)).2.1,(fdp (st 14)).2.2,3,[],.none,.none,.none,(.str ⟨⟨[108,97,119,95,116,111,48,48,51,53,95,48,49]⟩⟩ 2301),none,(.ref 161),.none,0⟩),⟨[]⟩⟩
noncomputable def o163 (P : Params) : Obj := ⟨(.type "tuple"),none,(.seq ⟨[]⟩ 0),⟨[]⟩⟩
noncomputable def o164 (P : Params) : Obj := ⟨.none,none,(.fields ⟨[]⟩),⟨[]⟩⟩
noncomputable def o165 (P : Params) : Obj := ⟨(.type "tuple"),none,(.seq ⟨[(.str ⟨⟨[110]⟩⟩ 2329),(.str ⟨⟨[107,105,110,100]⟩⟩ 2330),(.str ⟨⟨[119,104,105,99,104]⟩⟩ 2331),(.str ⟨⟨[115,105,103,110]⟩⟩ 2332),(.str ⟨⟨[103,114,101,97,116]⟩⟩ 2333),(.str ⟨⟨[112,108,97,99,101]⟩⟩ 2334),(.str ⟨⟨[116,119,111]⟩⟩ 2335),(.str ⟨⟨[116,104,114,101,101]⟩⟩ 2336)]⟩ 0),⟨[]⟩⟩
noncomputable def o166 (P : Params) : Obj := ⟨(.type "tuple"),none,(.seq ⟨[]⟩ 0),⟨[]⟩⟩
noncomputable def o167 (P : Params) : Obj := ⟨.none,none,(.func ⟨⟨⟨[95,108,97,119,95,112,105,101,99,101]⟩⟩,⟨⟨[95,108,97,119,95,112,105,101,99,101]⟩⟩,(fdp (st 15)).1,.stmts (fdp (st 15)).2.1,(fdp (st 15)).2.2,0,[],.none,.none,.none,.none,none,.none,.none,0⟩),⟨[]⟩⟩
noncomputable def o168 (P : Params) : Obj := ⟨(.type "code"),none,(.fields ⟨[(.str ⟨⟨[95,108,97,119,95,112,105,101,99,101]⟩⟩ 2326),(.str ⟨⟨[95,108,97,119,95,112,105,101,99,101]⟩⟩ 2327),(.str ⟨⟨[47,99,108,97,105,109,47,99,117,116,46,112,121]⟩⟩ 2328),(.int (.ofNat 75) 0),(.int (.ofNat 1) 0),(.int (.ofNat 0) 0),(.int (.ofNat 0) 0),(.int (.ofNat 3) 0),(.ref 163),(.bool true),(.int (.ofNat 181) 0),(.ref 164),.none,(.ref 165),(.ref 166),(.ref 167),(.int (.ofNat 2337) 0),(.int (.ofNat 75) 0),(.str ⟨⟨[47,99,108,97,105,109,47,99,117,116,46,112,121]⟩⟩ 2338)]⟩),⟨[]⟩⟩
noncomputable def o169 (P : Params) : Obj := ⟨(.type "function"),none,(.func ⟨⟨⟨[95,108,97,119,95,112,105,101,99,101]⟩⟩,⟨⟨[95,108,97,119,95,112,105,101,99,101]⟩⟩,(fdp (st 15)).1,.stmts (fdp (st 15)).2.1,(fdp (st 15)).2.2,3,[],.none,.none,.none,(.str ⟨⟨[108,97,119,95,116,111,48,48,51,53,95,48,49]⟩⟩ 2301),none,(.ref 168),.none,0⟩),⟨[]⟩⟩
noncomputable def o170 (P : Params) : Obj := ⟨(.type "tuple"),none,(.seq ⟨[]⟩ 0),⟨[]⟩⟩
noncomputable def o171 (P : Params) : Obj := ⟨.none,none,(.fields ⟨[]⟩),⟨[]⟩⟩
noncomputable def o172 (P : Params) : Obj := ⟨(.type "tuple"),none,(.seq ⟨[(.str ⟨⟨[115,99,114,105,112,116]⟩⟩ 2343),(.str ⟨⟨[99,101,108,108,115]⟩⟩ 2344),(.str ⟨⟨[107]⟩⟩ 2345),(.str ⟨⟨[115,105,103,110,115]⟩⟩ 2346),(.str ⟨⟨[109,101,97,110,115]⟩⟩ 2347),(.str ⟨⟨[99,101,108,108]⟩⟩ 2348),(.str ⟨⟨[110]⟩⟩ 2349),(.str ⟨⟨[112,105,101,99,101]⟩⟩ 2350)]⟩ 0),⟨[]⟩⟩
noncomputable def o173 (P : Params) : Obj := ⟨(.type "tuple"),none,(.seq ⟨[]⟩ 0),⟨[]⟩⟩
noncomputable def o174 (P : Params) : Obj := ⟨.none,none,(.func ⟨⟨⟨[95,108,97,119,95,116,101,120,116]⟩⟩,⟨⟨[95,108,97,119,95,116,101,120,116]⟩⟩,(fdp (st 16)).1,.stmts (fdp (st 16)).2.1,(fdp (st 16)).2.2,0,[],.none,.none,.none,.none,none,.none,.none,0⟩),⟨[]⟩⟩
noncomputable def o175 (P : Params) : Obj := ⟨(.type "code"),none,(.fields ⟨[(.str ⟨⟨[95,108,97,119,95,116,101,120,116]⟩⟩ 2340),(.str ⟨⟨[95,108,97,119,95,116,101,120,116]⟩⟩ 2341),(.str ⟨⟨[47,99,108,97,105,109,47,99,117,116,46,112,121]⟩⟩ 2342),(.int (.ofNat 99) 0),(.int (.ofNat 1) 0),(.int (.ofNat 0) 0),(.int (.ofNat 0) 0),(.int (.ofNat 3) 0),(.ref 170),(.bool true),(.int (.ofNat 181) 0),(.ref 171),.none,(.ref 172),(.ref 173),(.ref 174),(.int (.ofNat 2351) 0),(.int (.ofNat 99) 0),(.str ⟨⟨[47,99,108,97,105,109,47,99,117,116,46,112,121]⟩⟩ 2352)]⟩),⟨[]⟩⟩
noncomputable def o176 (P : Params) : Obj := ⟨(.type "function"),none,(.func ⟨⟨⟨[95,108,97,119,95,116,101,120,116]⟩⟩,⟨⟨[95,108,97,119,95,116,101,120,116]⟩⟩,(fdp (st 16)).1,.stmts (fdp (st 16)).2.1,(fdp (st 16)).2.2,3,[],.none,.none,.none,(.str ⟨⟨[108,97,119,95,116,111,48,48,51,53,95,48,49]⟩⟩ 2301),none,(.ref 175),.none,0⟩),⟨[]⟩⟩
noncomputable def o177 (P : Params) : Obj := ⟨(.type "tuple"),none,(.seq ⟨[]⟩ 0),⟨[]⟩⟩
noncomputable def o178 (P : Params) : Obj := ⟨.none,none,(.fields ⟨[]⟩),⟨[]⟩⟩
noncomputable def o179 (P : Params) : Obj := ⟨.none,none,(.func ⟨⟨⟨[95,108,97,119,95,112,114,101,112,97,114,101,100]⟩⟩,⟨⟨[95,108,97,119,95,112,114,101,112,97,114,101,100]⟩⟩,(fdp (st 17)).1,.stmts (fdp (st 17)).2.1,(fdp (st 17)).2.2,0,[],.none,.none,.none,.none,none,.none,.none,0⟩),⟨[]⟩⟩
noncomputable def o180 (P : Params) : Obj := ⟨(.type "code"),none,(.fields ⟨[(.str ⟨⟨[95,108,97,119,95,112,114,101,112,97,114,101,100]⟩⟩ 2354),(.str ⟨⟨[95,108,97,119,95,112,114,101,112,97,114,101,100]⟩⟩ 2355),(.str ⟨⟨[47,99,108,97,105,109,47,99,117,116,46,112,121]⟩⟩ 2356),(.int (.ofNat 111) 0),(.int (.ofNat 1) 0),(.int (.ofNat 0) 0),(.int (.ofNat 0) 0),(.int (.ofNat 3) 0),(.ref 177),(.bool true),(.int (.ofNat 181) 0),(.ref 178),.none,.none,.none,(.ref 179),(.int (.ofNat 2357) 0),(.int (.ofNat 111) 0),(.str ⟨⟨[47,99,108,97,105,109,47,99,117,116,46,112,121]⟩⟩ 2358)]⟩),⟨[]⟩⟩
noncomputable def o181 (P : Params) : Obj := ⟨(.type "function"),none,(.func ⟨⟨⟨[95,108,97,119,95,112,114,101,112,97,114,101,100]⟩⟩,⟨⟨[95,108,97,119,95,112,114,101,112,97,114,101,100]⟩⟩,(fdp (st 17)).1,.stmts (fdp (st 17)).2.1,(fdp (st 17)).2.2,3,[],.none,.none,.none,(.str ⟨⟨[108,97,119,95,116,111,48,48,51,53,95,48,49]⟩⟩ 2301),none,(.ref 180),.none,0⟩),⟨[]⟩⟩
noncomputable def o182 (P : Params) : Obj := ⟨(.type "tuple"),none,(.seq ⟨[]⟩ 0),⟨[]⟩⟩
noncomputable def o183 (P : Params) : Obj := ⟨.none,none,(.fields ⟨[]⟩),⟨[]⟩⟩
noncomputable def o184 (P : Params) : Obj := ⟨.none,none,(.func ⟨⟨⟨[95,108,97,119,95,108,97,115,116,95,112,97,114,116]⟩⟩,⟨⟨[95,108,97,119,95,108,97,115,116,95,112,97,114,116]⟩⟩,(fdp (st 18)).1,.stmts (fdp (st 18)).2.1,(fdp (st 18)).2.2,0,[],.none,.none,.none,.none,none,.none,.none,0⟩),⟨[]⟩⟩
noncomputable def o185 (P : Params) : Obj := ⟨(.type "code"),none,(.fields ⟨[(.str ⟨⟨[95,108,97,119,95,108,97,115,116,95,112,97,114,116]⟩⟩ 2360),(.str ⟨⟨[95,108,97,119,95,108,97,115,116,95,112,97,114,116]⟩⟩ 2361),(.str ⟨⟨[47,99,108,97,105,109,47,99,117,116,46,112,121]⟩⟩ 2362),(.int (.ofNat 116) 0),(.int (.ofNat 3) 0),(.int (.ofNat 0) 0),(.int (.ofNat 0) 0),(.int (.ofNat 3) 0),(.ref 182),(.bool true),(.int (.ofNat 181) 0),(.ref 183),.none,.none,.none,(.ref 184),(.int (.ofNat 2363) 0),(.int (.ofNat 116) 0),(.str ⟨⟨[47,99,108,97,105,109,47,99,117,116,46,112,121]⟩⟩ 2364)]⟩),⟨[]⟩⟩
noncomputable def o186 (P : Params) : Obj := ⟨(.type "function"),none,(.func ⟨⟨⟨[95,108,97,119,95,108,97,115,116,95,112,97,114,116]⟩⟩,⟨⟨[95,108,97,119,95,108,97,115,116,95,112,97,114,116]⟩⟩,(fdp (st 18)).1,.stmts (fdp (st 18)).2.1,(fdp (st 18)).2.2,3,[],.none,.none,.none,(.str ⟨⟨[108,97,119,95,116,111,48,48,51,53,95,48,49]⟩⟩ 2301),none,(.ref 185),.none,0⟩),⟨[]⟩⟩
noncomputable def o187 (P : Params) : Obj := ⟨(.type "tuple"),none,(.seq ⟨[]⟩ 0),⟨[]⟩⟩
noncomputable def o188 (P : Params) : Obj := ⟨.none,none,(.fields ⟨[]⟩),⟨[]⟩⟩
noncomputable def o189 (P : Params) : Obj := ⟨.none,none,(.func ⟨⟨⟨[108,97,119]⟩⟩,⟨⟨[108,97,119]⟩⟩,(fdp (st 19)).1,.stmts (fdp (st 19)).2.1,(fdp (st 19)).2.2,0,[],.none,.none,.none,.none,none,.none,.none,0⟩),⟨[]⟩⟩
noncomputable def o190 (P : Params) : Obj := ⟨(.type "code"),none,(.fields ⟨[(.str ⟨⟨[108,97,119]⟩⟩ 2366),(.str ⟨⟨[108,97,119]⟩⟩ 2367),(.str ⟨⟨[47,99,108,97,105,109,47,99,117,116,46,112,121]⟩⟩ 2368),(.int (.ofNat 121) 0),(.int (.ofNat 1) 0),(.int (.ofNat 0) 0),(.int (.ofNat 0) 0),(.int (.ofNat 3) 0),(.ref 187),(.bool true),(.int (.ofNat 181) 0),(.ref 188),.none,.none,.none,(.ref 189),(.int (.ofNat 2369) 0),(.int (.ofNat 121) 0),(.str ⟨⟨[47,99,108,97,105,109,47,99,117,116,46,112,121]⟩⟩ 2370)]⟩),⟨[]⟩⟩
noncomputable def o191 (P : Params) : Obj := ⟨(.type "function"),none,(.func ⟨⟨⟨[108,97,119]⟩⟩,⟨⟨[108,97,119]⟩⟩,(fdp (st 19)).1,.stmts (fdp (st 19)).2.1,(fdp (st 19)).2.2,3,[],.none,.none,.none,(.str ⟨⟨[108,97,119,95,116,111,48,48,51,53,95,48,49]⟩⟩ 2301),none,(.ref 190),.none,0⟩),⟨[]⟩⟩
noncomputable def m0 (P : Params) : Obj := ⟨(.type "dict"),none,(.dict ⟨[⟨PyData.keyHash P ⟨⟨[95,95,110,97,109,101,95,95]⟩⟩,(.str ⟨⟨[95,95,110,97,109,101,95,95]⟩⟩ 165),(.str ⟨⟨[95,95,109,97,105,110,95,95]⟩⟩ 164)⟩,⟨PyData.keyHash P ⟨⟨[95,95,100,111,99,95,95]⟩⟩,(.str ⟨⟨[95,95,100,111,99,95,95]⟩⟩ 166),.none⟩,⟨PyData.keyHash P ⟨⟨[95,95,112,97,99,107,97,103,101,95,95]⟩⟩,(.str ⟨⟨[95,95,112,97,99,107,97,103,101,95,95]⟩⟩ 167),.none⟩,⟨PyData.keyHash P ⟨⟨[95,95,108,111,97,100,101,114,95,95]⟩⟩,(.str ⟨⟨[95,95,108,111,97,100,101,114,95,95]⟩⟩ 168),(.builtin "__main__.__loader__#opaque")⟩,⟨PyData.keyHash P ⟨⟨[95,95,115,112,101,99,95,95]⟩⟩,(.str ⟨⟨[95,95,115,112,101,99,95,95]⟩⟩ 169),.none⟩,⟨PyData.keyHash P ⟨⟨[95,95,97,110,110,111,116,97,116,105,111,110,115,95,95]⟩⟩,(.str ⟨⟨[95,95,97,110,110,111,116,97,116,105,111,110,115,95,95]⟩⟩ 170),(.ref 6)⟩,⟨PyData.keyHash P ⟨⟨[95,95,98,117,105,108,116,105,110,115,95,95]⟩⟩,(.str ⟨⟨[95,95,98,117,105,108,116,105,110,115,95,95]⟩⟩ 171),(.ref 4)⟩,⟨PyData.keyHash P ⟨⟨[95,95,102,105,108,101,95,95]⟩⟩,(.str ⟨⟨[95,95,102,105,108,101,95,95]⟩⟩ 173),(.str ⟨⟨[47,99,108,97,105,109,47,99,117,116,46,112,121]⟩⟩ 172)⟩,⟨PyData.keyHash P ⟨⟨[95,95,99,97,99,104,101,100,95,95]⟩⟩,(.str ⟨⟨[95,95,99,97,99,104,101,100,95,95]⟩⟩ 174),.none⟩]⟩ 9),⟨[]⟩⟩
noncomputable def c0 (P : Params) : Obj := ⟨.none,none,(.fields ⟨[]⟩),⟨[]⟩⟩
noncomputable def m1 (P : Params) : Obj := ⟨(.type "dict"),none,(.dict ⟨[⟨PyData.keyHash P ⟨⟨[95,95,110,97,109,101,95,95]⟩⟩,(.str ⟨⟨[95,95,110,97,109,101,95,95]⟩⟩ 165),(.str ⟨⟨[99,112,121,51,49,51,46,110,101,116,114,99]⟩⟩ 187)⟩,⟨PyData.keyHash P ⟨⟨[95,95,100,111,99,95,95]⟩⟩,(.str ⟨⟨[95,95,100,111,99,95,95]⟩⟩ 166),.none⟩,⟨PyData.keyHash P ⟨⟨[95,95,112,97,99,107,97,103,101,95,95]⟩⟩,(.str ⟨⟨[95,95,112,97,99,107,97,103,101,95,95]⟩⟩ 167),.none⟩,⟨PyData.keyHash P ⟨⟨[95,95,108,111,97,100,101,114,95,95]⟩⟩,(.str ⟨⟨[95,95,108,111,97,100,101,114,95,95]⟩⟩ 168),(.builtin "__main__.__loader__#opaque")⟩,⟨PyData.keyHash P ⟨⟨[95,95,115,112,101,99,95,95]⟩⟩,(.str ⟨⟨[95,95,115,112,101,99,95,95]⟩⟩ 169),.none⟩,⟨PyData.keyHash P ⟨⟨[95,95,97,110,110,111,116,97,116,105,111,110,115,95,95]⟩⟩,(.str ⟨⟨[95,95,97,110,110,111,116,97,116,105,111,110,115,95,95]⟩⟩ 170),(.ref 6)⟩,⟨PyData.keyHash P ⟨⟨[95,95,98,117,105,108,116,105,110,115,95,95]⟩⟩,(.str ⟨⟨[95,95,98,117,105,108,116,105,110,115,95,95]⟩⟩ 171),(.ref 4)⟩,⟨PyData.keyHash P ⟨⟨[95,95,102,105,108,101,95,95]⟩⟩,(.str ⟨⟨[95,95,102,105,108,101,95,95]⟩⟩ 173),(.str ⟨⟨[47,99,108,97,105,109,47,99,117,116,46,112,121]⟩⟩ 172)⟩,⟨PyData.keyHash P ⟨⟨[95,95,99,97,99,104,101,100,95,95]⟩⟩,(.str ⟨⟨[95,95,99,97,99,104,101,100,95,95]⟩⟩ 174),.none⟩]⟩ 9),⟨[]⟩⟩
noncomputable def c1 (P : Params) : Obj := ⟨.none,none,(.fields ⟨[]⟩),⟨[]⟩⟩
noncomputable def m2 (P : Params) : Obj := ⟨(.type "dict"),none,(.dict ⟨[⟨PyData.keyHash P ⟨⟨[95,95,110,97,109,101,95,95]⟩⟩,(.str ⟨⟨[95,95,110,97,109,101,95,95]⟩⟩ 165),(.str ⟨⟨[99,112,121,51,49,51,46,110,101,116,114,99]⟩⟩ 187)⟩,⟨PyData.keyHash P ⟨⟨[95,95,100,111,99,95,95]⟩⟩,(.str ⟨⟨[95,95,100,111,99,95,95]⟩⟩ 166),.none⟩,⟨PyData.keyHash P ⟨⟨[95,95,112,97,99,107,97,103,101,95,95]⟩⟩,(.str ⟨⟨[95,95,112,97,99,107,97,103,101,95,95]⟩⟩ 167),.none⟩,⟨PyData.keyHash P ⟨⟨[95,95,108,111,97,100,101,114,95,95]⟩⟩,(.str ⟨⟨[95,95,108,111,97,100,101,114,95,95]⟩⟩ 168),(.builtin "__main__.__loader__#opaque")⟩,⟨PyData.keyHash P ⟨⟨[95,95,115,112,101,99,95,95]⟩⟩,(.str ⟨⟨[95,95,115,112,101,99,95,95]⟩⟩ 169),.none⟩,⟨PyData.keyHash P ⟨⟨[95,95,97,110,110,111,116,97,116,105,111,110,115,95,95]⟩⟩,(.str ⟨⟨[95,95,97,110,110,111,116,97,116,105,111,110,115,95,95]⟩⟩ 170),(.ref 6)⟩,⟨PyData.keyHash P ⟨⟨[95,95,98,117,105,108,116,105,110,115,95,95]⟩⟩,(.str ⟨⟨[95,95,98,117,105,108,116,105,110,115,95,95]⟩⟩ 171),(.ref 4)⟩,⟨PyData.keyHash P ⟨⟨[95,95,102,105,108,101,95,95]⟩⟩,(.str ⟨⟨[95,95,102,105,108,101,95,95]⟩⟩ 173),(.str ⟨⟨[47,99,108,97,105,109,47,99,117,116,46,112,121]⟩⟩ 172)⟩,⟨PyData.keyHash P ⟨⟨[95,95,99,97,99,104,101,100,95,95]⟩⟩,(.str ⟨⟨[95,95,99,97,99,104,101,100,95,95]⟩⟩ 174),.none⟩,⟨PyData.keyHash P ⟨⟨[95,110,101,116,114,99,108,101,120]⟩⟩,(.str ⟨⟨[95,110,101,116,114,99,108,101,120]⟩⟩ 246),(.ref 52)⟩]⟩ 10),⟨[]⟩⟩
noncomputable def c2 (P : Params) : Obj := ⟨.none,none,(.fields ⟨[(.int (.ofNat 2) 0),(.int (.ofNat 0) 0),(.ref 20)]⟩),⟨[]⟩⟩
noncomputable def m3 (P : Params) : Obj := ⟨(.type "dict"),none,(.dict ⟨[⟨PyData.keyHash P ⟨⟨[95,95,110,97,109,101,95,95]⟩⟩,(.str ⟨⟨[95,95,110,97,109,101,95,95]⟩⟩ 165),(.str ⟨⟨[99,112,121,51,49,51,46,111,112,101,114,97,116,111,114]⟩⟩ 247)⟩,⟨PyData.keyHash P ⟨⟨[95,95,100,111,99,95,95]⟩⟩,(.str ⟨⟨[95,95,100,111,99,95,95]⟩⟩ 166),.none⟩,⟨PyData.keyHash P ⟨⟨[95,95,112,97,99,107,97,103,101,95,95]⟩⟩,(.str ⟨⟨[95,95,112,97,99,107,97,103,101,95,95]⟩⟩ 167),.none⟩,⟨PyData.keyHash P ⟨⟨[95,95,108,111,97,100,101,114,95,95]⟩⟩,(.str ⟨⟨[95,95,108,111,97,100,101,114,95,95]⟩⟩ 168),(.builtin "__main__.__loader__#opaque")⟩,⟨PyData.keyHash P ⟨⟨[95,95,115,112,101,99,95,95]⟩⟩,(.str ⟨⟨[95,95,115,112,101,99,95,95]⟩⟩ 169),.none⟩,⟨PyData.keyHash P ⟨⟨[95,95,97,110,110,111,116,97,116,105,111,110,115,95,95]⟩⟩,(.str ⟨⟨[95,95,97,110,110,111,116,97,116,105,111,110,115,95,95]⟩⟩ 170),(.ref 6)⟩,⟨PyData.keyHash P ⟨⟨[95,95,98,117,105,108,116,105,110,115,95,95]⟩⟩,(.str ⟨⟨[95,95,98,117,105,108,116,105,110,115,95,95]⟩⟩ 171),(.ref 4)⟩,⟨PyData.keyHash P ⟨⟨[95,95,102,105,108,101,95,95]⟩⟩,(.str ⟨⟨[95,95,102,105,108,101,95,95]⟩⟩ 173),(.str ⟨⟨[47,99,108,97,105,109,47,99,117,116,46,112,121]⟩⟩ 172)⟩,⟨PyData.keyHash P ⟨⟨[95,95,99,97,99,104,101,100,95,95]⟩⟩,(.str ⟨⟨[95,95,99,97,99,104,101,100,95,95]⟩⟩ 174),.none⟩,⟨PyData.keyHash P ⟨⟨[95,110,101,116,114,99,108,101,120]⟩⟩,(.str ⟨⟨[95,110,101,116,114,99,108,101,120]⟩⟩ 246),(.ref 52)⟩]⟩ 10),⟨[]⟩⟩
noncomputable def c3 (P : Params) : Obj := ⟨.none,none,(.fields ⟨[(.int (.ofNat 2) 0),(.int (.ofNat 0) 0),(.ref 20)]⟩),⟨[]⟩⟩
noncomputable def m4 (P : Params) : Obj := ⟨(.type "dict"),none,(.dict ⟨[⟨PyData.keyHash P ⟨⟨[95,95,110,97,109,101,95,95]⟩⟩,(.str ⟨⟨[95,95,110,97,109,101,95,95]⟩⟩ 165),(.str ⟨⟨[99,112,121,51,49,51,46,111,112,101,114,97,116,111,114]⟩⟩ 247)⟩,⟨PyData.keyHash P ⟨⟨[95,95,100,111,99,95,95]⟩⟩,(.str ⟨⟨[95,95,100,111,99,95,95]⟩⟩ 166),.none⟩,⟨PyData.keyHash P ⟨⟨[95,95,112,97,99,107,97,103,101,95,95]⟩⟩,(.str ⟨⟨[95,95,112,97,99,107,97,103,101,95,95]⟩⟩ 167),.none⟩,⟨PyData.keyHash P ⟨⟨[95,95,108,111,97,100,101,114,95,95]⟩⟩,(.str ⟨⟨[95,95,108,111,97,100,101,114,95,95]⟩⟩ 168),(.builtin "__main__.__loader__#opaque")⟩,⟨PyData.keyHash P ⟨⟨[95,95,115,112,101,99,95,95]⟩⟩,(.str ⟨⟨[95,95,115,112,101,99,95,95]⟩⟩ 169),.none⟩,⟨PyData.keyHash P ⟨⟨[95,95,97,110,110,111,116,97,116,105,111,110,115,95,95]⟩⟩,(.str ⟨⟨[95,95,97,110,110,111,116,97,116,105,111,110,115,95,95]⟩⟩ 170),(.ref 6)⟩,⟨PyData.keyHash P ⟨⟨[95,95,98,117,105,108,116,105,110,115,95,95]⟩⟩,(.str ⟨⟨[95,95,98,117,105,108,116,105,110,115,95,95]⟩⟩ 171),(.ref 4)⟩,⟨PyData.keyHash P ⟨⟨[95,95,102,105,108,101,95,95]⟩⟩,(.str ⟨⟨[95,95,102,105,108,101,95,95]⟩⟩ 173),(.str ⟨⟨[47,99,108,97,105,109,47,99,117,116,46,112,121]⟩⟩ 172)⟩,⟨PyData.keyHash P ⟨⟨[95,95,99,97,99,104,101,100,95,95]⟩⟩,(.str ⟨⟨[95,95,99,97,99,104,101,100,95,95]⟩⟩ 174),.none⟩,⟨PyData.keyHash P ⟨⟨[95,110,101,116,114,99,108,101,120]⟩⟩,(.str ⟨⟨[95,110,101,116,114,99,108,101,120]⟩⟩ 246),(.ref 52)⟩,⟨PyData.keyHash P ⟨⟨[108,116]⟩⟩,(.str ⟨⟨[108,116]⟩⟩ 256),(.ref 63)⟩]⟩ 11),⟨[]⟩⟩
noncomputable def c4 (P : Params) : Obj := ⟨.none,none,(.fields ⟨[(.int (.ofNat 2) 0),(.int (.ofNat 0) 0),(.ref 20),(.int (.ofNat 46) 0),(.int (.ofNat 0) 0),(.ref 62)]⟩),⟨[]⟩⟩
noncomputable def m5 (P : Params) : Obj := ⟨(.type "dict"),none,(.dict ⟨[⟨PyData.keyHash P ⟨⟨[95,95,110,97,109,101,95,95]⟩⟩,(.str ⟨⟨[95,95,110,97,109,101,95,95]⟩⟩ 165),(.str ⟨⟨[99,112,121,51,49,51,46,111,112,101,114,97,116,111,114]⟩⟩ 247)⟩,⟨PyData.keyHash P ⟨⟨[95,95,100,111,99,95,95]⟩⟩,(.str ⟨⟨[95,95,100,111,99,95,95]⟩⟩ 166),.none⟩,⟨PyData.keyHash P ⟨⟨[95,95,112,97,99,107,97,103,101,95,95]⟩⟩,(.str ⟨⟨[95,95,112,97,99,107,97,103,101,95,95]⟩⟩ 167),.none⟩,⟨PyData.keyHash P ⟨⟨[95,95,108,111,97,100,101,114,95,95]⟩⟩,(.str ⟨⟨[95,95,108,111,97,100,101,114,95,95]⟩⟩ 168),(.builtin "__main__.__loader__#opaque")⟩,⟨PyData.keyHash P ⟨⟨[95,95,115,112,101,99,95,95]⟩⟩,(.str ⟨⟨[95,95,115,112,101,99,95,95]⟩⟩ 169),.none⟩,⟨PyData.keyHash P ⟨⟨[95,95,97,110,110,111,116,97,116,105,111,110,115,95,95]⟩⟩,(.str ⟨⟨[95,95,97,110,110,111,116,97,116,105,111,110,115,95,95]⟩⟩ 170),(.ref 6)⟩,⟨PyData.keyHash P ⟨⟨[95,95,98,117,105,108,116,105,110,115,95,95]⟩⟩,(.str ⟨⟨[95,95,98,117,105,108,116,105,110,115,95,95]⟩⟩ 171),(.ref 4)⟩,⟨PyData.keyHash P ⟨⟨[95,95,102,105,108,101,95,95]⟩⟩,(.str ⟨⟨[95,95,102,105,108,101,95,95]⟩⟩ 173),(.str ⟨⟨[47,99,108,97,105,109,47,99,117,116,46,112,121]⟩⟩ 172)⟩,⟨PyData.keyHash P ⟨⟨[95,95,99,97,99,104,101,100,95,95]⟩⟩,(.str ⟨⟨[95,95,99,97,99,104,101,100,95,95]⟩⟩ 174),.none⟩,⟨PyData.keyHash P ⟨⟨[95,110,101,116,114,99,108,101,120]⟩⟩,(.str ⟨⟨[95,110,101,116,114,99,108,101,120]⟩⟩ 246),(.ref 52)⟩,⟨PyData.keyHash P ⟨⟨[108,116]⟩⟩,(.str ⟨⟨[108,116]⟩⟩ 256),(.ref 63)⟩,⟨PyData.keyHash P ⟨⟨[97,100,100]⟩⟩,(.str ⟨⟨[97,100,100]⟩⟩ 264),(.ref 70)⟩]⟩ 12),⟨[]⟩⟩
noncomputable def c5 (P : Params) : Obj := ⟨.none,none,(.fields ⟨[(.int (.ofNat 2) 0),(.int (.ofNat 0) 0),(.ref 20),(.int (.ofNat 46) 0),(.int (.ofNat 0) 0),(.ref 62),(.int (.ofNat 48) 0),(.int (.ofNat 0) 0),(.ref 69)]⟩),⟨[]⟩⟩
noncomputable def m6 (P : Params) : Obj := ⟨(.type "dict"),none,(.dict ⟨[⟨PyData.keyHash P ⟨⟨[95,95,110,97,109,101,95,95]⟩⟩,(.str ⟨⟨[95,95,110,97,109,101,95,95]⟩⟩ 165),(.str ⟨⟨[99,112,121,51,49,51,46,111,112,101,114,97,116,111,114]⟩⟩ 247)⟩,⟨PyData.keyHash P ⟨⟨[95,95,100,111,99,95,95]⟩⟩,(.str ⟨⟨[95,95,100,111,99,95,95]⟩⟩ 166),.none⟩,⟨PyData.keyHash P ⟨⟨[95,95,112,97,99,107,97,103,101,95,95]⟩⟩,(.str ⟨⟨[95,95,112,97,99,107,97,103,101,95,95]⟩⟩ 167),.none⟩,⟨PyData.keyHash P ⟨⟨[95,95,108,111,97,100,101,114,95,95]⟩⟩,(.str ⟨⟨[95,95,108,111,97,100,101,114,95,95]⟩⟩ 168),(.builtin "__main__.__loader__#opaque")⟩,⟨PyData.keyHash P ⟨⟨[95,95,115,112,101,99,95,95]⟩⟩,(.str ⟨⟨[95,95,115,112,101,99,95,95]⟩⟩ 169),.none⟩,⟨PyData.keyHash P ⟨⟨[95,95,97,110,110,111,116,97,116,105,111,110,115,95,95]⟩⟩,(.str ⟨⟨[95,95,97,110,110,111,116,97,116,105,111,110,115,95,95]⟩⟩ 170),(.ref 6)⟩,⟨PyData.keyHash P ⟨⟨[95,95,98,117,105,108,116,105,110,115,95,95]⟩⟩,(.str ⟨⟨[95,95,98,117,105,108,116,105,110,115,95,95]⟩⟩ 171),(.ref 4)⟩,⟨PyData.keyHash P ⟨⟨[95,95,102,105,108,101,95,95]⟩⟩,(.str ⟨⟨[95,95,102,105,108,101,95,95]⟩⟩ 173),(.str ⟨⟨[47,99,108,97,105,109,47,99,117,116,46,112,121]⟩⟩ 172)⟩,⟨PyData.keyHash P ⟨⟨[95,95,99,97,99,104,101,100,95,95]⟩⟩,(.str ⟨⟨[95,95,99,97,99,104,101,100,95,95]⟩⟩ 174),.none⟩,⟨PyData.keyHash P ⟨⟨[95,110,101,116,114,99,108,101,120]⟩⟩,(.str ⟨⟨[95,110,101,116,114,99,108,101,120]⟩⟩ 246),(.ref 52)⟩,⟨PyData.keyHash P ⟨⟨[108,116]⟩⟩,(.str ⟨⟨[108,116]⟩⟩ 256),(.ref 63)⟩,⟨PyData.keyHash P ⟨⟨[97,100,100]⟩⟩,(.str ⟨⟨[97,100,100]⟩⟩ 264),(.ref 70)⟩,⟨PyData.keyHash P ⟨⟨[115,117,98]⟩⟩,(.str ⟨⟨[115,117,98]⟩⟩ 272),(.ref 77)⟩]⟩ 13),⟨[]⟩⟩
noncomputable def c6 (P : Params) : Obj := ⟨.none,none,(.fields ⟨[(.int (.ofNat 2) 0),(.int (.ofNat 0) 0),(.ref 20),(.int (.ofNat 46) 0),(.int (.ofNat 0) 0),(.ref 62),(.int (.ofNat 48) 0),(.int (.ofNat 0) 0),(.ref 69),(.int (.ofNat 50) 0),(.int (.ofNat 0) 0),(.ref 76)]⟩),⟨[]⟩⟩
noncomputable def m7 (P : Params) : Obj := ⟨(.type "dict"),none,(.dict ⟨[⟨PyData.keyHash P ⟨⟨[95,95,110,97,109,101,95,95]⟩⟩,(.str ⟨⟨[95,95,110,97,109,101,95,95]⟩⟩ 165),(.str ⟨⟨[99,112,121,51,49,51,46,115,116,114,105,110,103,112,114,101,112]⟩⟩ 273)⟩,⟨PyData.keyHash P ⟨⟨[95,95,100,111,99,95,95]⟩⟩,(.str ⟨⟨[95,95,100,111,99,95,95]⟩⟩ 166),.none⟩,⟨PyData.keyHash P ⟨⟨[95,95,112,97,99,107,97,103,101,95,95]⟩⟩,(.str ⟨⟨[95,95,112,97,99,107,97,103,101,95,95]⟩⟩ 167),.none⟩,⟨PyData.keyHash P ⟨⟨[95,95,108,111,97,100,101,114,95,95]⟩⟩,(.str ⟨⟨[95,95,108,111,97,100,101,114,95,95]⟩⟩ 168),(.builtin "__main__.__loader__#opaque")⟩,⟨PyData.keyHash P ⟨⟨[95,95,115,112,101,99,95,95]⟩⟩,(.str ⟨⟨[95,95,115,112,101,99,95,95]⟩⟩ 169),.none⟩,⟨PyData.keyHash P ⟨⟨[95,95,97,110,110,111,116,97,116,105,111,110,115,95,95]⟩⟩,(.str ⟨⟨[95,95,97,110,110,111,116,97,116,105,111,110,115,95,95]⟩⟩ 170),(.ref 6)⟩,⟨PyData.keyHash P ⟨⟨[95,95,98,117,105,108,116,105,110,115,95,95]⟩⟩,(.str ⟨⟨[95,95,98,117,105,108,116,105,110,115,95,95]⟩⟩ 171),(.ref 4)⟩,⟨PyData.keyHash P ⟨⟨[95,95,102,105,108,101,95,95]⟩⟩,(.str ⟨⟨[95,95,102,105,108,101,95,95]⟩⟩ 173),(.str ⟨⟨[47,99,108,97,105,109,47,99,117,116,46,112,121]⟩⟩ 172)⟩,⟨PyData.keyHash P ⟨⟨[95,95,99,97,99,104,101,100,95,95]⟩⟩,(.str ⟨⟨[95,95,99,97,99,104,101,100,95,95]⟩⟩ 174),.none⟩,⟨PyData.keyHash P ⟨⟨[95,110,101,116,114,99,108,101,120]⟩⟩,(.str ⟨⟨[95,110,101,116,114,99,108,101,120]⟩⟩ 246),(.ref 52)⟩,⟨PyData.keyHash P ⟨⟨[108,116]⟩⟩,(.str ⟨⟨[108,116]⟩⟩ 256),(.ref 63)⟩,⟨PyData.keyHash P ⟨⟨[97,100,100]⟩⟩,(.str ⟨⟨[97,100,100]⟩⟩ 264),(.ref 70)⟩,⟨PyData.keyHash P ⟨⟨[115,117,98]⟩⟩,(.str ⟨⟨[115,117,98]⟩⟩ 272),(.ref 77)⟩]⟩ 13),⟨[]⟩⟩
noncomputable def c7 (P : Params) : Obj := ⟨.none,none,(.fields ⟨[(.int (.ofNat 2) 0),(.int (.ofNat 0) 0),(.ref 20),(.int (.ofNat 46) 0),(.int (.ofNat 0) 0),(.ref 62),(.int (.ofNat 48) 0),(.int (.ofNat 0) 0),(.ref 69),(.int (.ofNat 50) 0),(.int (.ofNat 0) 0),(.ref 76)]⟩),⟨[]⟩⟩
noncomputable def m8 (P : Params) : Obj := ⟨(.type "dict"),none,(.dict ⟨[⟨PyData.keyHash P ⟨⟨[95,95,110,97,109,101,95,95]⟩⟩,(.str ⟨⟨[95,95,110,97,109,101,95,95]⟩⟩ 165),(.str ⟨⟨[99,112,121,51,49,51,46,115,116,114,105,110,103,112,114,101,112]⟩⟩ 273)⟩,⟨PyData.keyHash P ⟨⟨[95,95,100,111,99,95,95]⟩⟩,(.str ⟨⟨[95,95,100,111,99,95,95]⟩⟩ 166),.none⟩,⟨PyData.keyHash P ⟨⟨[95,95,112,97,99,107,97,103,101,95,95]⟩⟩,(.str ⟨⟨[95,95,112,97,99,107,97,103,101,95,95]⟩⟩ 167),.none⟩,⟨PyData.keyHash P ⟨⟨[95,95,108,111,97,100,101,114,95,95]⟩⟩,(.str ⟨⟨[95,95,108,111,97,100,101,114,95,95]⟩⟩ 168),(.builtin "__main__.__loader__#opaque")⟩,⟨PyData.keyHash P ⟨⟨[95,95,115,112,101,99,95,95]⟩⟩,(.str ⟨⟨[95,95,115,112,101,99,95,95]⟩⟩ 169),.none⟩,⟨PyData.keyHash P ⟨⟨[95,95,97,110,110,111,116,97,116,105,111,110,115,95,95]⟩⟩,(.str ⟨⟨[95,95,97,110,110,111,116,97,116,105,111,110,115,95,95]⟩⟩ 170),(.ref 6)⟩,⟨PyData.keyHash P ⟨⟨[95,95,98,117,105,108,116,105,110,115,95,95]⟩⟩,(.str ⟨⟨[95,95,98,117,105,108,116,105,110,115,95,95]⟩⟩ 171),(.ref 4)⟩,⟨PyData.keyHash P ⟨⟨[95,95,102,105,108,101,95,95]⟩⟩,(.str ⟨⟨[95,95,102,105,108,101,95,95]⟩⟩ 173),(.str ⟨⟨[47,99,108,97,105,109,47,99,117,116,46,112,121]⟩⟩ 172)⟩,⟨PyData.keyHash P ⟨⟨[95,95,99,97,99,104,101,100,95,95]⟩⟩,(.str ⟨⟨[95,95,99,97,99,104,101,100,95,95]⟩⟩ 174),.none⟩,⟨PyData.keyHash P ⟨⟨[95,110,101,116,114,99,108,101,120]⟩⟩,(.str ⟨⟨[95,110,101,116,114,99,108,101,120]⟩⟩ 246),(.ref 52)⟩,⟨PyData.keyHash P ⟨⟨[108,116]⟩⟩,(.str ⟨⟨[108,116]⟩⟩ 256),(.ref 63)⟩,⟨PyData.keyHash P ⟨⟨[97,100,100]⟩⟩,(.str ⟨⟨[97,100,100]⟩⟩ 264),(.ref 70)⟩,⟨PyData.keyHash P ⟨⟨[115,117,98]⟩⟩,(.str ⟨⟨[115,117,98]⟩⟩ 272),(.ref 77)⟩,⟨PyData.keyHash P ⟨⟨[98,49,95,115,101,116]⟩⟩,(.str ⟨⟨[98,49,95,115,101,116]⟩⟩ 334),(.ref 85)⟩]⟩ 14),⟨[]⟩⟩
noncomputable def c8 (P : Params) : Obj := ⟨.none,none,(.fields ⟨[(.int (.ofNat 2) 0),(.int (.ofNat 0) 0),(.ref 20),(.int (.ofNat 46) 0),(.int (.ofNat 0) 0),(.ref 62),(.int (.ofNat 48) 0),(.int (.ofNat 0) 0),(.ref 69),(.int (.ofNat 50) 0),(.int (.ofNat 0) 0),(.ref 76)]⟩),⟨[]⟩⟩
noncomputable def m9 (P : Params) : Obj := ⟨(.type "dict"),none,(.dict ⟨[⟨PyData.keyHash P ⟨⟨[95,95,110,97,109,101,95,95]⟩⟩,(.str ⟨⟨[95,95,110,97,109,101,95,95]⟩⟩ 165),(.str ⟨⟨[99,112,121,51,49,51,46,115,116,114,105,110,103,112,114,101,112]⟩⟩ 273)⟩,⟨PyData.keyHash P ⟨⟨[95,95,100,111,99,95,95]⟩⟩,(.str ⟨⟨[95,95,100,111,99,95,95]⟩⟩ 166),.none⟩,⟨PyData.keyHash P ⟨⟨[95,95,112,97,99,107,97,103,101,95,95]⟩⟩,(.str ⟨⟨[95,95,112,97,99,107,97,103,101,95,95]⟩⟩ 167),.none⟩,⟨PyData.keyHash P ⟨⟨[95,95,108,111,97,100,101,114,95,95]⟩⟩,(.str ⟨⟨[95,95,108,111,97,100,101,114,95,95]⟩⟩ 168),(.builtin "__main__.__loader__#opaque")⟩,⟨PyData.keyHash P ⟨⟨[95,95,115,112,101,99,95,95]⟩⟩,(.str ⟨⟨[95,95,115,112,101,99,95,95]⟩⟩ 169),.none⟩,⟨PyData.keyHash P ⟨⟨[95,95,97,110,110,111,116,97,116,105,111,110,115,95,95]⟩⟩,(.str ⟨⟨[95,95,97,110,110,111,116,97,116,105,111,110,115,95,95]⟩⟩ 170),(.ref 6)⟩,⟨PyData.keyHash P ⟨⟨[95,95,98,117,105,108,116,105,110,115,95,95]⟩⟩,(.str ⟨⟨[95,95,98,117,105,108,116,105,110,115,95,95]⟩⟩ 171),(.ref 4)⟩,⟨PyData.keyHash P ⟨⟨[95,95,102,105,108,101,95,95]⟩⟩,(.str ⟨⟨[95,95,102,105,108,101,95,95]⟩⟩ 173),(.str ⟨⟨[47,99,108,97,105,109,47,99,117,116,46,112,121]⟩⟩ 172)⟩,⟨PyData.keyHash P ⟨⟨[95,95,99,97,99,104,101,100,95,95]⟩⟩,(.str ⟨⟨[95,95,99,97,99,104,101,100,95,95]⟩⟩ 174),.none⟩,⟨PyData.keyHash P ⟨⟨[95,110,101,116,114,99,108,101,120]⟩⟩,(.str ⟨⟨[95,110,101,116,114,99,108,101,120]⟩⟩ 246),(.ref 52)⟩,⟨PyData.keyHash P ⟨⟨[108,116]⟩⟩,(.str ⟨⟨[108,116]⟩⟩ 256),(.ref 63)⟩,⟨PyData.keyHash P ⟨⟨[97,100,100]⟩⟩,(.str ⟨⟨[97,100,100]⟩⟩ 264),(.ref 70)⟩,⟨PyData.keyHash P ⟨⟨[115,117,98]⟩⟩,(.str ⟨⟨[115,117,98]⟩⟩ 272),(.ref 77)⟩,⟨PyData.keyHash P ⟨⟨[98,49,95,115,101,116]⟩⟩,(.str ⟨⟨[98,49,95,115,101,116]⟩⟩ 334),(.ref 85)⟩,⟨PyData.keyHash P ⟨⟨[105,110,95,116,97,98,108,101,95,98,49]⟩⟩,(.str ⟨⟨[105,110,95,116,97,98,108,101,95,98,49]⟩⟩ 341),(.ref 95)⟩]⟩ 15),⟨[]⟩⟩
noncomputable def c9 (P : Params) : Obj := ⟨.none,none,(.fields ⟨[(.int (.ofNat 2) 0),(.int (.ofNat 0) 0),(.ref 20),(.int (.ofNat 46) 0),(.int (.ofNat 0) 0),(.ref 62),(.int (.ofNat 48) 0),(.int (.ofNat 0) 0),(.ref 69),(.int (.ofNat 50) 0),(.int (.ofNat 0) 0),(.ref 76),(.int (.ofNat 54) 0),(.int (.ofNat 0) 0),(.ref 94)]⟩),⟨[]⟩⟩
noncomputable def m10 (P : Params) : Obj := ⟨(.type "dict"),none,(.dict ⟨[⟨PyData.keyHash P ⟨⟨[95,95,110,97,109,101,95,95]⟩⟩,(.str ⟨⟨[95,95,110,97,109,101,95,95]⟩⟩ 165),(.str ⟨⟨[99,112,121,51,49,51,46,115,116,114,105,110,103,112,114,101,112]⟩⟩ 273)⟩,⟨PyData.keyHash P ⟨⟨[95,95,100,111,99,95,95]⟩⟩,(.str ⟨⟨[95,95,100,111,99,95,95]⟩⟩ 166),.none⟩,⟨PyData.keyHash P ⟨⟨[95,95,112,97,99,107,97,103,101,95,95]⟩⟩,(.str ⟨⟨[95,95,112,97,99,107,97,103,101,95,95]⟩⟩ 167),.none⟩,⟨PyData.keyHash P ⟨⟨[95,95,108,111,97,100,101,114,95,95]⟩⟩,(.str ⟨⟨[95,95,108,111,97,100,101,114,95,95]⟩⟩ 168),(.builtin "__main__.__loader__#opaque")⟩,⟨PyData.keyHash P ⟨⟨[95,95,115,112,101,99,95,95]⟩⟩,(.str ⟨⟨[95,95,115,112,101,99,95,95]⟩⟩ 169),.none⟩,⟨PyData.keyHash P ⟨⟨[95,95,97,110,110,111,116,97,116,105,111,110,115,95,95]⟩⟩,(.str ⟨⟨[95,95,97,110,110,111,116,97,116,105,111,110,115,95,95]⟩⟩ 170),(.ref 6)⟩,⟨PyData.keyHash P ⟨⟨[95,95,98,117,105,108,116,105,110,115,95,95]⟩⟩,(.str ⟨⟨[95,95,98,117,105,108,116,105,110,115,95,95]⟩⟩ 171),(.ref 4)⟩,⟨PyData.keyHash P ⟨⟨[95,95,102,105,108,101,95,95]⟩⟩,(.str ⟨⟨[95,95,102,105,108,101,95,95]⟩⟩ 173),(.str ⟨⟨[47,99,108,97,105,109,47,99,117,116,46,112,121]⟩⟩ 172)⟩,⟨PyData.keyHash P ⟨⟨[95,95,99,97,99,104,101,100,95,95]⟩⟩,(.str ⟨⟨[95,95,99,97,99,104,101,100,95,95]⟩⟩ 174),.none⟩,⟨PyData.keyHash P ⟨⟨[95,110,101,116,114,99,108,101,120]⟩⟩,(.str ⟨⟨[95,110,101,116,114,99,108,101,120]⟩⟩ 246),(.ref 52)⟩,⟨PyData.keyHash P ⟨⟨[108,116]⟩⟩,(.str ⟨⟨[108,116]⟩⟩ 256),(.ref 63)⟩,⟨PyData.keyHash P ⟨⟨[97,100,100]⟩⟩,(.str ⟨⟨[97,100,100]⟩⟩ 264),(.ref 70)⟩,⟨PyData.keyHash P ⟨⟨[115,117,98]⟩⟩,(.str ⟨⟨[115,117,98]⟩⟩ 272),(.ref 77)⟩,⟨PyData.keyHash P ⟨⟨[98,49,95,115,101,116]⟩⟩,(.str ⟨⟨[98,49,95,115,101,116]⟩⟩ 334),(.ref 85)⟩,⟨PyData.keyHash P ⟨⟨[105,110,95,116,97,98,108,101,95,98,49]⟩⟩,(.str ⟨⟨[105,110,95,116,97,98,108,101,95,98,49]⟩⟩ 341),(.ref 95)⟩,⟨PyData.keyHash P ⟨⟨[98,51,95,101,120,99,101,112,116,105,111,110,115]⟩⟩,(.str ⟨⟨[98,51,95,101,120,99,101,112,116,105,111,110,115]⟩⟩ 2292),(.ref 96)⟩]⟩ 16),⟨[]⟩⟩
noncomputable def c10 (P : Params) : Obj := ⟨.none,none,(.fields ⟨[(.int (.ofNat 2) 0),(.int (.ofNat 0) 0),(.ref 20),(.int (.ofNat 46) 0),(.int (.ofNat 0) 0),(.ref 62),(.int (.ofNat 48) 0),(.int (.ofNat 0) 0),(.ref 69),(.int (.ofNat 50) 0),(.int (.ofNat 0) 0),(.ref 76),(.int (.ofNat 54) 0),(.int (.ofNat 0) 0),(.ref 94)]⟩),⟨[]⟩⟩
noncomputable def m11 (P : Params) : Obj := ⟨(.type "dict"),none,(.dict ⟨[⟨PyData.keyHash P ⟨⟨[95,95,110,97,109,101,95,95]⟩⟩,(.str ⟨⟨[95,95,110,97,109,101,95,95]⟩⟩ 165),(.str ⟨⟨[99,112,121,51,49,51,46,115,116,114,105,110,103,112,114,101,112]⟩⟩ 273)⟩,⟨PyData.keyHash P ⟨⟨[95,95,100,111,99,95,95]⟩⟩,(.str ⟨⟨[95,95,100,111,99,95,95]⟩⟩ 166),.none⟩,⟨PyData.keyHash P ⟨⟨[95,95,112,97,99,107,97,103,101,95,95]⟩⟩,(.str ⟨⟨[95,95,112,97,99,107,97,103,101,95,95]⟩⟩ 167),.none⟩,⟨PyData.keyHash P ⟨⟨[95,95,108,111,97,100,101,114,95,95]⟩⟩,(.str ⟨⟨[95,95,108,111,97,100,101,114,95,95]⟩⟩ 168),(.builtin "__main__.__loader__#opaque")⟩,⟨PyData.keyHash P ⟨⟨[95,95,115,112,101,99,95,95]⟩⟩,(.str ⟨⟨[95,95,115,112,101,99,95,95]⟩⟩ 169),.none⟩,⟨PyData.keyHash P ⟨⟨[95,95,97,110,110,111,116,97,116,105,111,110,115,95,95]⟩⟩,(.str ⟨⟨[95,95,97,110,110,111,116,97,116,105,111,110,115,95,95]⟩⟩ 170),(.ref 6)⟩,⟨PyData.keyHash P ⟨⟨[95,95,98,117,105,108,116,105,110,115,95,95]⟩⟩,(.str ⟨⟨[95,95,98,117,105,108,116,105,110,115,95,95]⟩⟩ 171),(.ref 4)⟩,⟨PyData.keyHash P ⟨⟨[95,95,102,105,108,101,95,95]⟩⟩,(.str ⟨⟨[95,95,102,105,108,101,95,95]⟩⟩ 173),(.str ⟨⟨[47,99,108,97,105,109,47,99,117,116,46,112,121]⟩⟩ 172)⟩,⟨PyData.keyHash P ⟨⟨[95,95,99,97,99,104,101,100,95,95]⟩⟩,(.str ⟨⟨[95,95,99,97,99,104,101,100,95,95]⟩⟩ 174),.none⟩,⟨PyData.keyHash P ⟨⟨[95,110,101,116,114,99,108,101,120]⟩⟩,(.str ⟨⟨[95,110,101,116,114,99,108,101,120]⟩⟩ 246),(.ref 52)⟩,⟨PyData.keyHash P ⟨⟨[108,116]⟩⟩,(.str ⟨⟨[108,116]⟩⟩ 256),(.ref 63)⟩,⟨PyData.keyHash P ⟨⟨[97,100,100]⟩⟩,(.str ⟨⟨[97,100,100]⟩⟩ 264),(.ref 70)⟩,⟨PyData.keyHash P ⟨⟨[115,117,98]⟩⟩,(.str ⟨⟨[115,117,98]⟩⟩ 272),(.ref 77)⟩,⟨PyData.keyHash P ⟨⟨[98,49,95,115,101,116]⟩⟩,(.str ⟨⟨[98,49,95,115,101,116]⟩⟩ 334),(.ref 85)⟩,⟨PyData.keyHash P ⟨⟨[105,110,95,116,97,98,108,101,95,98,49]⟩⟩,(.str ⟨⟨[105,110,95,116,97,98,108,101,95,98,49]⟩⟩ 341),(.ref 95)⟩,⟨PyData.keyHash P ⟨⟨[98,51,95,101,120,99,101,112,116,105,111,110,115]⟩⟩,(.str ⟨⟨[98,51,95,101,120,99,101,112,116,105,111,110,115]⟩⟩ 2292),(.ref 96)⟩,⟨PyData.keyHash P ⟨⟨[109,97,112,95,116,97,98,108,101,95,98,51]⟩⟩,(.str ⟨⟨[109,97,112,95,116,97,98,108,101,95,98,51]⟩⟩ 2300),(.ref 141)⟩]⟩ 17),⟨[]⟩⟩
noncomputable def c11 (P : Params) : Obj := ⟨.none,none,(.fields ⟨[(.int (.ofNat 2) 0),(.int (.ofNat 0) 0),(.ref 20),(.int (.ofNat 46) 0),(.int (.ofNat 0) 0),(.ref 62),(.int (.ofNat 48) 0),(.int (.ofNat 0) 0),(.ref 69),(.int (.ofNat 50) 0),(.int (.ofNat 0) 0),(.ref 76),(.int (.ofNat 54) 0),(.int (.ofNat 0) 0),(.ref 94),(.int (.ofNat 57) 0),(.int (.ofNat 0) 0),(.ref 140)]⟩),⟨[]⟩⟩
noncomputable def m12 (P : Params) : Obj := ⟨(.type "dict"),none,(.dict ⟨[⟨PyData.keyHash P ⟨⟨[95,95,110,97,109,101,95,95]⟩⟩,(.str ⟨⟨[95,95,110,97,109,101,95,95]⟩⟩ 165),(.str ⟨⟨[108,97,119,95,116,111,48,48,51,53,95,48,49]⟩⟩ 2301)⟩,⟨PyData.keyHash P ⟨⟨[95,95,100,111,99,95,95]⟩⟩,(.str ⟨⟨[95,95,100,111,99,95,95]⟩⟩ 166),.none⟩,⟨PyData.keyHash P ⟨⟨[95,95,112,97,99,107,97,103,101,95,95]⟩⟩,(.str ⟨⟨[95,95,112,97,99,107,97,103,101,95,95]⟩⟩ 167),.none⟩,⟨PyData.keyHash P ⟨⟨[95,95,108,111,97,100,101,114,95,95]⟩⟩,(.str ⟨⟨[95,95,108,111,97,100,101,114,95,95]⟩⟩ 168),(.builtin "__main__.__loader__#opaque")⟩,⟨PyData.keyHash P ⟨⟨[95,95,115,112,101,99,95,95]⟩⟩,(.str ⟨⟨[95,95,115,112,101,99,95,95]⟩⟩ 169),.none⟩,⟨PyData.keyHash P ⟨⟨[95,95,97,110,110,111,116,97,116,105,111,110,115,95,95]⟩⟩,(.str ⟨⟨[95,95,97,110,110,111,116,97,116,105,111,110,115,95,95]⟩⟩ 170),(.ref 6)⟩,⟨PyData.keyHash P ⟨⟨[95,95,98,117,105,108,116,105,110,115,95,95]⟩⟩,(.str ⟨⟨[95,95,98,117,105,108,116,105,110,115,95,95]⟩⟩ 171),(.ref 4)⟩,⟨PyData.keyHash P ⟨⟨[95,95,102,105,108,101,95,95]⟩⟩,(.str ⟨⟨[95,95,102,105,108,101,95,95]⟩⟩ 173),(.str ⟨⟨[47,99,108,97,105,109,47,99,117,116,46,112,121]⟩⟩ 172)⟩,⟨PyData.keyHash P ⟨⟨[95,95,99,97,99,104,101,100,95,95]⟩⟩,(.str ⟨⟨[95,95,99,97,99,104,101,100,95,95]⟩⟩ 174),.none⟩,⟨PyData.keyHash P ⟨⟨[95,110,101,116,114,99,108,101,120]⟩⟩,(.str ⟨⟨[95,110,101,116,114,99,108,101,120]⟩⟩ 246),(.ref 52)⟩,⟨PyData.keyHash P ⟨⟨[108,116]⟩⟩,(.str ⟨⟨[108,116]⟩⟩ 256),(.ref 63)⟩,⟨PyData.keyHash P ⟨⟨[97,100,100]⟩⟩,(.str ⟨⟨[97,100,100]⟩⟩ 264),(.ref 70)⟩,⟨PyData.keyHash P ⟨⟨[115,117,98]⟩⟩,(.str ⟨⟨[115,117,98]⟩⟩ 272),(.ref 77)⟩,⟨PyData.keyHash P ⟨⟨[98,49,95,115,101,116]⟩⟩,(.str ⟨⟨[98,49,95,115,101,116]⟩⟩ 334),(.ref 85)⟩,⟨PyData.keyHash P ⟨⟨[105,110,95,116,97,98,108,101,95,98,49]⟩⟩,(.str ⟨⟨[105,110,95,116,97,98,108,101,95,98,49]⟩⟩ 341),(.ref 95)⟩,⟨PyData.keyHash P ⟨⟨[98,51,95,101,120,99,101,112,116,105,111,110,115]⟩⟩,(.str ⟨⟨[98,51,95,101,120,99,101,112,116,105,111,110,115]⟩⟩ 2292),(.ref 96)⟩,⟨PyData.keyHash P ⟨⟨[109,97,112,95,116,97,98,108,101,95,98,51]⟩⟩,(.str ⟨⟨[109,97,112,95,116,97,98,108,101,95,98,51]⟩⟩ 2300),(.ref 141)⟩]⟩ 17),⟨[]⟩⟩
noncomputable def c12 (P : Params) : Obj := ⟨.none,none,(.fields ⟨[(.int (.ofNat 2) 0),(.int (.ofNat 0) 0),(.ref 20),(.int (.ofNat 46) 0),(.int (.ofNat 0) 0),(.ref 62),(.int (.ofNat 48) 0),(.int (.ofNat 0) 0),(.ref 69),(.int (.ofNat 50) 0),(.int (.ofNat 0) 0),(.ref 76),(.int (.ofNat 54) 0),(.int (.ofNat 0) 0),(.ref 94),(.int (.ofNat 57) 0),(.int (.ofNat 0) 0),(.ref 140)]⟩),⟨[]⟩⟩
noncomputable def m13 (P : Params) : Obj := ⟨(.type "dict"),none,(.dict ⟨[⟨PyData.keyHash P ⟨⟨[95,95,110,97,109,101,95,95]⟩⟩,(.str ⟨⟨[95,95,110,97,109,101,95,95]⟩⟩ 165),(.str ⟨⟨[108,97,119,95,116,111,48,48,51,53,95,48,49]⟩⟩ 2301)⟩,⟨PyData.keyHash P ⟨⟨[95,95,100,111,99,95,95]⟩⟩,(.str ⟨⟨[95,95,100,111,99,95,95]⟩⟩ 166),.none⟩,⟨PyData.keyHash P ⟨⟨[95,95,112,97,99,107,97,103,101,95,95]⟩⟩,(.str ⟨⟨[95,95,112,97,99,107,97,103,101,95,95]⟩⟩ 167),.none⟩,⟨PyData.keyHash P ⟨⟨[95,95,108,111,97,100,101,114,95,95]⟩⟩,(.str ⟨⟨[95,95,108,111,97,100,101,114,95,95]⟩⟩ 168),(.builtin "__main__.__loader__#opaque")⟩,⟨PyData.keyHash P ⟨⟨[95,95,115,112,101,99,95,95]⟩⟩,(.str ⟨⟨[95,95,115,112,101,99,95,95]⟩⟩ 169),.none⟩,⟨PyData.keyHash P ⟨⟨[95,95,97,110,110,111,116,97,116,105,111,110,115,95,95]⟩⟩,(.str ⟨⟨[95,95,97,110,110,111,116,97,116,105,111,110,115,95,95]⟩⟩ 170),(.ref 6)⟩,⟨PyData.keyHash P ⟨⟨[95,95,98,117,105,108,116,105,110,115,95,95]⟩⟩,(.str ⟨⟨[95,95,98,117,105,108,116,105,110,115,95,95]⟩⟩ 171),(.ref 4)⟩,⟨PyData.keyHash P ⟨⟨[95,95,102,105,108,101,95,95]⟩⟩,(.str ⟨⟨[95,95,102,105,108,101,95,95]⟩⟩ 173),(.str ⟨⟨[47,99,108,97,105,109,47,99,117,116,46,112,121]⟩⟩ 172)⟩,⟨PyData.keyHash P ⟨⟨[95,95,99,97,99,104,101,100,95,95]⟩⟩,(.str ⟨⟨[95,95,99,97,99,104,101,100,95,95]⟩⟩ 174),.none⟩,⟨PyData.keyHash P ⟨⟨[95,110,101,116,114,99,108,101,120]⟩⟩,(.str ⟨⟨[95,110,101,116,114,99,108,101,120]⟩⟩ 246),(.ref 52)⟩,⟨PyData.keyHash P ⟨⟨[108,116]⟩⟩,(.str ⟨⟨[108,116]⟩⟩ 256),(.ref 63)⟩,⟨PyData.keyHash P ⟨⟨[97,100,100]⟩⟩,(.str ⟨⟨[97,100,100]⟩⟩ 264),(.ref 70)⟩,⟨PyData.keyHash P ⟨⟨[115,117,98]⟩⟩,(.str ⟨⟨[115,117,98]⟩⟩ 272),(.ref 77)⟩,⟨PyData.keyHash P ⟨⟨[98,49,95,115,101,116]⟩⟩,(.str ⟨⟨[98,49,95,115,101,116]⟩⟩ 334),(.ref 85)⟩,⟨PyData.keyHash P ⟨⟨[105,110,95,116,97,98,108,101,95,98,49]⟩⟩,(.str ⟨⟨[105,110,95,116,97,98,108,101,95,98,49]⟩⟩ 341),(.ref 95)⟩,⟨PyData.keyHash P ⟨⟨[98,51,95,101,120,99,101,112,116,105,111,110,115]⟩⟩,(.str ⟨⟨[98,51,95,101,120,99,101,112,116,105,111,110,115]⟩⟩ 2292),(.ref 96)⟩,⟨PyData.keyHash P ⟨⟨[109,97,112,95,116,97,98,108,101,95,98,51]⟩⟩,(.str ⟨⟨[109,97,112,95,116,97,98,108,101,95,98,51]⟩⟩ 2300),(.ref 141)⟩,⟨PyData.keyHash P ⟨⟨[95,108,97,119,95,108,101,120,101,114]⟩⟩,(.str ⟨⟨[95,108,97,119,95,108,101,120,101,114]⟩⟩ 2311),(.ref 148)⟩]⟩ 18),⟨[]⟩⟩
noncomputable def c13 (P : Params) : Obj := ⟨.none,none,(.fields ⟨[(.int (.ofNat 2) 0),(.int (.ofNat 0) 0),(.ref 20),(.int (.ofNat 46) 0),(.int (.ofNat 0) 0),(.ref 62),(.int (.ofNat 48) 0),(.int (.ofNat 0) 0),(.ref 69),(.int (.ofNat 50) 0),(.int (.ofNat 0) 0),(.ref 76),(.int (.ofNat 54) 0),(.int (.ofNat 0) 0),(.ref 94),(.int (.ofNat 57) 0),(.int (.ofNat 0) 0),(.ref 140),(.int (.ofNat 63) 0),(.int (.ofNat 0) 0),(.ref 147)]⟩),⟨[]⟩⟩
noncomputable def m14 (P : Params) : Obj := ⟨(.type "dict"),none,(.dict ⟨[⟨PyData.keyHash P ⟨⟨[95,95,110,97,109,101,95,95]⟩⟩,(.str ⟨⟨[95,95,110,97,109,101,95,95]⟩⟩ 165),(.str ⟨⟨[108,97,119,95,116,111,48,48,51,53,95,48,49]⟩⟩ 2301)⟩,⟨PyData.keyHash P ⟨⟨[95,95,100,111,99,95,95]⟩⟩,(.str ⟨⟨[95,95,100,111,99,95,95]⟩⟩ 166),.none⟩,⟨PyData.keyHash P ⟨⟨[95,95,112,97,99,107,97,103,101,95,95]⟩⟩,(.str ⟨⟨[95,95,112,97,99,107,97,103,101,95,95]⟩⟩ 167),.none⟩,⟨PyData.keyHash P ⟨⟨[95,95,108,111,97,100,101,114,95,95]⟩⟩,(.str ⟨⟨[95,95,108,111,97,100,101,114,95,95]⟩⟩ 168),(.builtin "__main__.__loader__#opaque")⟩,⟨PyData.keyHash P ⟨⟨[95,95,115,112,101,99,95,95]⟩⟩,(.str ⟨⟨[95,95,115,112,101,99,95,95]⟩⟩ 169),.none⟩,⟨PyData.keyHash P ⟨⟨[95,95,97,110,110,111,116,97,116,105,111,110,115,95,95]⟩⟩,(.str ⟨⟨[95,95,97,110,110,111,116,97,116,105,111,110,115,95,95]⟩⟩ 170),(.ref 6)⟩,⟨PyData.keyHash P ⟨⟨[95,95,98,117,105,108,116,105,110,115,95,95]⟩⟩,(.str ⟨⟨[95,95,98,117,105,108,116,105,110,115,95,95]⟩⟩ 171),(.ref 4)⟩,⟨PyData.keyHash P ⟨⟨[95,95,102,105,108,101,95,95]⟩⟩,(.str ⟨⟨[95,95,102,105,108,101,95,95]⟩⟩ 173),(.str ⟨⟨[47,99,108,97,105,109,47,99,117,116,46,112,121]⟩⟩ 172)⟩,⟨PyData.keyHash P ⟨⟨[95,95,99,97,99,104,101,100,95,95]⟩⟩,(.str ⟨⟨[95,95,99,97,99,104,101,100,95,95]⟩⟩ 174),.none⟩,⟨PyData.keyHash P ⟨⟨[95,110,101,116,114,99,108,101,120]⟩⟩,(.str ⟨⟨[95,110,101,116,114,99,108,101,120]⟩⟩ 246),(.ref 52)⟩,⟨PyData.keyHash P ⟨⟨[108,116]⟩⟩,(.str ⟨⟨[108,116]⟩⟩ 256),(.ref 63)⟩,⟨PyData.keyHash P ⟨⟨[97,100,100]⟩⟩,(.str ⟨⟨[97,100,100]⟩⟩ 264),(.ref 70)⟩,⟨PyData.keyHash P ⟨⟨[115,117,98]⟩⟩,(.str ⟨⟨[115,117,98]⟩⟩ 272),(.ref 77)⟩,⟨PyData.keyHash P ⟨⟨[98,49,95,115,101,116]⟩⟩,(.str ⟨⟨[98,49,95,115,101,116]⟩⟩ 334),(.ref 85)⟩,⟨PyData.keyHash P ⟨⟨[105,110,95,116,97,98,108,101,95,98,49]⟩⟩,(.str ⟨⟨[105,110,95,116,97,98,108,101,95,98,49]⟩⟩ 341),(.ref 95)⟩,⟨PyData.keyHash P ⟨⟨[98,51,95,101,120,99,101,112,116,105,111,110,115]⟩⟩,(.str ⟨⟨[98,51,95,101,120,99,101,112,116,105,111,110,115]⟩⟩ 2292),(.ref 96)⟩,⟨PyData.keyHash P ⟨⟨[109,97,112,95,116,97,98,108,101,95,98,51]⟩⟩,(.str ⟨⟨[109,97,112,95,116,97,98,108,101,95,98,51]⟩⟩ 2300),(.ref 141)⟩,⟨PyData.keyHash P ⟨⟨[95,108,97,119,95,108,101,120,101,114]⟩⟩,(.str ⟨⟨[95,108,97,119,95,108,101,120,101,114]⟩⟩ 2311),(.ref 148)⟩,⟨PyData.keyHash P ⟨⟨[95,108,97,119,95,104,105,100,100,101,110]⟩⟩,(.str ⟨⟨[95,108,97,119,95,104,105,100,100,101,110]⟩⟩ 2318),(.ref 155)⟩]⟩ 19),⟨[]⟩⟩
noncomputable def c14 (P : Params) : Obj := ⟨.none,none,(.fields ⟨[(.int (.ofNat 2) 0),(.int (.ofNat 0) 0),(.ref 20),(.int (.ofNat 46) 0),(.int (.ofNat 0) 0),(.ref 62),(.int (.ofNat 48) 0),(.int (.ofNat 0) 0),(.ref 69),(.int (.ofNat 50) 0),(.int (.ofNat 0) 0),(.ref 76),(.int (.ofNat 54) 0),(.int (.ofNat 0) 0),(.ref 94),(.int (.ofNat 57) 0),(.int (.ofNat 0) 0),(.ref 140),(.int (.ofNat 63) 0),(.int (.ofNat 0) 0),(.ref 147),(.int (.ofNat 69) 0),(.int (.ofNat 0) 0),(.ref 154)]⟩),⟨[]⟩⟩
noncomputable def m15 (P : Params) : Obj := ⟨(.type "dict"),none,(.dict ⟨[⟨PyData.keyHash P ⟨⟨[95,95,110,97,109,101,95,95]⟩⟩,(.str ⟨⟨[95,95,110,97,109,101,95,95]⟩⟩ 165),(.str ⟨⟨[108,97,119,95,116,111,48,48,51,53,95,48,49]⟩⟩ 2301)⟩,⟨PyData.keyHash P ⟨⟨[95,95,100,111,99,95,95]⟩⟩,(.str ⟨⟨[95,95,100,111,99,95,95]⟩⟩ 166),.none⟩,⟨PyData.keyHash P ⟨⟨[95,95,112,97,99,107,97,103,101,95,95]⟩⟩,(.str ⟨⟨[95,95,112,97,99,107,97,103,101,95,95]⟩⟩ 167),.none⟩,⟨PyData.keyHash P ⟨⟨[95,95,108,111,97,100,101,114,95,95]⟩⟩,(.str ⟨⟨[95,95,108,111,97,100,101,114,95,95]⟩⟩ 168),(.builtin "__main__.__loader__#opaque")⟩,⟨PyData.keyHash P ⟨⟨[95,95,115,112,101,99,95,95]⟩⟩,(.str ⟨⟨[95,95,115,112,101,99,95,95]⟩⟩ 169),.none⟩,⟨PyData.keyHash P ⟨⟨[95,95,97,110,110,111,116,97,116,105,111,110,115,95,95]⟩⟩,(.str ⟨⟨[95,95,97,110,110,111,116,97,116,105,111,110,115,95,95]⟩⟩ 170),(.ref 6)⟩,⟨PyData.keyHash P ⟨⟨[95,95,98,117,105,108,116,105,110,115,95,95]⟩⟩,(.str ⟨⟨[95,95,98,117,105,108,116,105,110,115,95,95]⟩⟩ 171),(.ref 4)⟩,⟨PyData.keyHash P ⟨⟨[95,95,102,105,108,101,95,95]⟩⟩,(.str ⟨⟨[95,95,102,105,108,101,95,95]⟩⟩ 173),(.str ⟨⟨[47,99,108,97,105,109,47,99,117,116,46,112,121]⟩⟩ 172)⟩,⟨PyData.keyHash P ⟨⟨[95,95,99,97,99,104,101,100,95,95]⟩⟩,(.str ⟨⟨[95,95,99,97,99,104,101,100,95,95]⟩⟩ 174),.none⟩,⟨PyData.keyHash P ⟨⟨[95,110,101,116,114,99,108,101,120]⟩⟩,(.str ⟨⟨[95,110,101,116,114,99,108,101,120]⟩⟩ 246),(.ref 52)⟩,⟨PyData.keyHash P ⟨⟨[108,116]⟩⟩,(.str ⟨⟨[108,116]⟩⟩ 256),(.ref 63)⟩,⟨PyData.keyHash P ⟨⟨[97,100,100]⟩⟩,(.str ⟨⟨[97,100,100]⟩⟩ 264),(.ref 70)⟩,⟨PyData.keyHash P ⟨⟨[115,117,98]⟩⟩,(.str ⟨⟨[115,117,98]⟩⟩ 272),(.ref 77)⟩,⟨PyData.keyHash P ⟨⟨[98,49,95,115,101,116]⟩⟩,(.str ⟨⟨[98,49,95,115,101,116]⟩⟩ 334),(.ref 85)⟩,⟨PyData.keyHash P ⟨⟨[105,110,95,116,97,98,108,101,95,98,49]⟩⟩,(.str ⟨⟨[105,110,95,116,97,98,108,101,95,98,49]⟩⟩ 341),(.ref 95)⟩,⟨PyData.keyHash P ⟨⟨[98,51,95,101,120,99,101,112,116,105,111,110,115]⟩⟩,(.str ⟨⟨[98,51,95,101,120,99,101,112,116,105,111,110,115]⟩⟩ 2292),(.ref 96)⟩,⟨PyData.keyHash P ⟨⟨[109,97,112,95,116,97,98,108,101,95,98,51]⟩⟩,(.str ⟨⟨[109,97,112,95,116,97,98,108,101,95,98,51]⟩⟩ 2300),(.ref 141)⟩,⟨PyData.keyHash P ⟨⟨[95,108,97,119,95,108,101,120,101,114]⟩⟩,(.str ⟨⟨[95,108,97,119,95,108,101,120,101,114]⟩⟩ 2311),(.ref 148)⟩,⟨PyData.keyHash P ⟨⟨[95,108,97,119,95,104,105,100,100,101,110]⟩⟩,(.str ⟨⟨[95,108,97,119,95,104,105,100,100,101,110]⟩⟩ 2318),(.ref 155)⟩,⟨PyData.keyHash P ⟨⟨[95,108,97,119,95,98,101,115,105,100,101]⟩⟩,(.str ⟨⟨[95,108,97,119,95,98,101,115,105,100,101]⟩⟩ 2325),(.ref 162)⟩]⟩ 20),⟨[]⟩⟩
noncomputable def c15 (P : Params) : Obj := ⟨.none,none,(.fields ⟨[(.int (.ofNat 2) 0),(.int (.ofNat 0) 0),(.ref 20),(.int (.ofNat 46) 0),(.int (.ofNat 0) 0),(.ref 62),(.int (.ofNat 48) 0),(.int (.ofNat 0) 0),(.ref 69),(.int (.ofNat 50) 0),(.int (.ofNat 0) 0),(.ref 76),(.int (.ofNat 54) 0),(.int (.ofNat 0) 0),(.ref 94),(.int (.ofNat 57) 0),(.int (.ofNat 0) 0),(.ref 140),(.int (.ofNat 63) 0),(.int (.ofNat 0) 0),(.ref 147),(.int (.ofNat 69) 0),(.int (.ofNat 0) 0),(.ref 154),(.int (.ofNat 73) 0),(.int (.ofNat 0) 0),(.ref 161)]⟩),⟨[]⟩⟩
noncomputable def m16 (P : Params) : Obj := ⟨(.type "dict"),none,(.dict ⟨[⟨PyData.keyHash P ⟨⟨[95,95,110,97,109,101,95,95]⟩⟩,(.str ⟨⟨[95,95,110,97,109,101,95,95]⟩⟩ 165),(.str ⟨⟨[108,97,119,95,116,111,48,48,51,53,95,48,49]⟩⟩ 2301)⟩,⟨PyData.keyHash P ⟨⟨[95,95,100,111,99,95,95]⟩⟩,(.str ⟨⟨[95,95,100,111,99,95,95]⟩⟩ 166),.none⟩,⟨PyData.keyHash P ⟨⟨[95,95,112,97,99,107,97,103,101,95,95]⟩⟩,(.str ⟨⟨[95,95,112,97,99,107,97,103,101,95,95]⟩⟩ 167),.none⟩,⟨PyData.keyHash P ⟨⟨[95,95,108,111,97,100,101,114,95,95]⟩⟩,(.str ⟨⟨[95,95,108,111,97,100,101,114,95,95]⟩⟩ 168),(.builtin "__main__.__loader__#opaque")⟩,⟨PyData.keyHash P ⟨⟨[95,95,115,112,101,99,95,95]⟩⟩,(.str ⟨⟨[95,95,115,112,101,99,95,95]⟩⟩ 169),.none⟩,⟨PyData.keyHash P ⟨⟨[95,95,97,110,110,111,116,97,116,105,111,110,115,95,95]⟩⟩,(.str ⟨⟨[95,95,97,110,110,111,116,97,116,105,111,110,115,95,95]⟩⟩ 170),(.ref 6)⟩,⟨PyData.keyHash P ⟨⟨[95,95,98,117,105,108,116,105,110,115,95,95]⟩⟩,(.str ⟨⟨[95,95,98,117,105,108,116,105,110,115,95,95]⟩⟩ 171),(.ref 4)⟩,⟨PyData.keyHash P ⟨⟨[95,95,102,105,108,101,95,95]⟩⟩,(.str ⟨⟨[95,95,102,105,108,101,95,95]⟩⟩ 173),(.str ⟨⟨[47,99,108,97,105,109,47,99,117,116,46,112,121]⟩⟩ 172)⟩,⟨PyData.keyHash P ⟨⟨[95,95,99,97,99,104,101,100,95,95]⟩⟩,(.str ⟨⟨[95,95,99,97,99,104,101,100,95,95]⟩⟩ 174),.none⟩,⟨PyData.keyHash P ⟨⟨[95,110,101,116,114,99,108,101,120]⟩⟩,(.str ⟨⟨[95,110,101,116,114,99,108,101,120]⟩⟩ 246),(.ref 52)⟩,⟨PyData.keyHash P ⟨⟨[108,116]⟩⟩,(.str ⟨⟨[108,116]⟩⟩ 256),(.ref 63)⟩,⟨PyData.keyHash P ⟨⟨[97,100,100]⟩⟩,(.str ⟨⟨[97,100,100]⟩⟩ 264),(.ref 70)⟩,⟨PyData.keyHash P ⟨⟨[115,117,98]⟩⟩,(.str ⟨⟨[115,117,98]⟩⟩ 272),(.ref 77)⟩,⟨PyData.keyHash P ⟨⟨[98,49,95,115,101,116]⟩⟩,(.str ⟨⟨[98,49,95,115,101,116]⟩⟩ 334),(.ref 85)⟩,⟨PyData.keyHash P ⟨⟨[105,110,95,116,97,98,108,101,95,98,49]⟩⟩,(.str ⟨⟨[105,110,95,116,97,98,108,101,95,98,49]⟩⟩ 341),(.ref 95)⟩,⟨PyData.keyHash P ⟨⟨[98,51,95,101,120,99,101,112,116,105,111,110,115]⟩⟩,(.str ⟨⟨[98,51,95,101,120,99,101,112,116,105,111,110,115]⟩⟩ 2292),(.ref 96)⟩,⟨PyData.keyHash P ⟨⟨[109,97,112,95,116,97,98,108,101,95,98,51]⟩⟩,(.str ⟨⟨[109,97,112,95,116,97,98,108,101,95,98,51]⟩⟩ 2300),(.ref 141)⟩,⟨PyData.keyHash P ⟨⟨[95,108,97,119,95,108,101,120,101,114]⟩⟩,(.str ⟨⟨[95,108,97,119,95,108,101,120,101,114]⟩⟩ 2311),(.ref 148)⟩,⟨PyData.keyHash P ⟨⟨[95,108,97,119,95,104,105,100,100,101,110]⟩⟩,(.str ⟨⟨[95,108,97,119,95,104,105,100,100,101,110]⟩⟩ 2318),(.ref 155)⟩,⟨PyData.keyHash P ⟨⟨[95,108,97,119,95,98,101,115,105,100,101]⟩⟩,(.str ⟨⟨[95,108,97,119,95,98,101,115,105,100,101]⟩⟩ 2325),(.ref 162)⟩,⟨PyData.keyHash P ⟨⟨[95,108,97,119,95,112,105,101,99,101]⟩⟩,(.str ⟨⟨[95,108,97,119,95,112,105,101,99,101]⟩⟩ 2339),(.ref 169)⟩]⟩ 21),⟨[]⟩⟩
noncomputable def c16 (P : Params) : Obj := ⟨.none,none,(.fields ⟨[(.int (.ofNat 2) 0),(.int (.ofNat 0) 0),(.ref 20),(.int (.ofNat 46) 0),(.int (.ofNat 0) 0),(.ref 62),(.int (.ofNat 48) 0),(.int (.ofNat 0) 0),(.ref 69),(.int (.ofNat 50) 0),(.int (.ofNat 0) 0),(.ref 76),(.int (.ofNat 54) 0),(.int (.ofNat 0) 0),(.ref 94),(.int (.ofNat 57) 0),(.int (.ofNat 0) 0),(.ref 140),(.int (.ofNat 63) 0),(.int (.ofNat 0) 0),(.ref 147),(.int (.ofNat 69) 0),(.int (.ofNat 0) 0),(.ref 154),(.int (.ofNat 73) 0),(.int (.ofNat 0) 0),(.ref 161),(.int (.ofNat 75) 0),(.int (.ofNat 0) 0),(.ref 168)]⟩),⟨[]⟩⟩
noncomputable def m17 (P : Params) : Obj := ⟨(.type "dict"),none,(.dict ⟨[⟨PyData.keyHash P ⟨⟨[95,95,110,97,109,101,95,95]⟩⟩,(.str ⟨⟨[95,95,110,97,109,101,95,95]⟩⟩ 165),(.str ⟨⟨[108,97,119,95,116,111,48,48,51,53,95,48,49]⟩⟩ 2301)⟩,⟨PyData.keyHash P ⟨⟨[95,95,100,111,99,95,95]⟩⟩,(.str ⟨⟨[95,95,100,111,99,95,95]⟩⟩ 166),.none⟩,⟨PyData.keyHash P ⟨⟨[95,95,112,97,99,107,97,103,101,95,95]⟩⟩,(.str ⟨⟨[95,95,112,97,99,107,97,103,101,95,95]⟩⟩ 167),.none⟩,⟨PyData.keyHash P ⟨⟨[95,95,108,111,97,100,101,114,95,95]⟩⟩,(.str ⟨⟨[95,95,108,111,97,100,101,114,95,95]⟩⟩ 168),(.builtin "__main__.__loader__#opaque")⟩,⟨PyData.keyHash P ⟨⟨[95,95,115,112,101,99,95,95]⟩⟩,(.str ⟨⟨[95,95,115,112,101,99,95,95]⟩⟩ 169),.none⟩,⟨PyData.keyHash P ⟨⟨[95,95,97,110,110,111,116,97,116,105,111,110,115,95,95]⟩⟩,(.str ⟨⟨[95,95,97,110,110,111,116,97,116,105,111,110,115,95,95]⟩⟩ 170),(.ref 6)⟩,⟨PyData.keyHash P ⟨⟨[95,95,98,117,105,108,116,105,110,115,95,95]⟩⟩,(.str ⟨⟨[95,95,98,117,105,108,116,105,110,115,95,95]⟩⟩ 171),(.ref 4)⟩,⟨PyData.keyHash P ⟨⟨[95,95,102,105,108,101,95,95]⟩⟩,(.str ⟨⟨[95,95,102,105,108,101,95,95]⟩⟩ 173),(.str ⟨⟨[47,99,108,97,105,109,47,99,117,116,46,112,121]⟩⟩ 172)⟩,⟨PyData.keyHash P ⟨⟨[95,95,99,97,99,104,101,100,95,95]⟩⟩,(.str ⟨⟨[95,95,99,97,99,104,101,100,95,95]⟩⟩ 174),.none⟩,⟨PyData.keyHash P ⟨⟨[95,110,101,116,114,99,108,101,120]⟩⟩,(.str ⟨⟨[95,110,101,116,114,99,108,101,120]⟩⟩ 246),(.ref 52)⟩,⟨PyData.keyHash P ⟨⟨[108,116]⟩⟩,(.str ⟨⟨[108,116]⟩⟩ 256),(.ref 63)⟩,⟨PyData.keyHash P ⟨⟨[97,100,100]⟩⟩,(.str ⟨⟨[97,100,100]⟩⟩ 264),(.ref 70)⟩,⟨PyData.keyHash P ⟨⟨[115,117,98]⟩⟩,(.str ⟨⟨[115,117,98]⟩⟩ 272),(.ref 77)⟩,⟨PyData.keyHash P ⟨⟨[98,49,95,115,101,116]⟩⟩,(.str ⟨⟨[98,49,95,115,101,116]⟩⟩ 334),(.ref 85)⟩,⟨PyData.keyHash P ⟨⟨[105,110,95,116,97,98,108,101,95,98,49]⟩⟩,(.str ⟨⟨[105,110,95,116,97,98,108,101,95,98,49]⟩⟩ 341),(.ref 95)⟩,⟨PyData.keyHash P ⟨⟨[98,51,95,101,120,99,101,112,116,105,111,110,115]⟩⟩,(.str ⟨⟨[98,51,95,101,120,99,101,112,116,105,111,110,115]⟩⟩ 2292),(.ref 96)⟩,⟨PyData.keyHash P ⟨⟨[109,97,112,95,116,97,98,108,101,95,98,51]⟩⟩,(.str ⟨⟨[109,97,112,95,116,97,98,108,101,95,98,51]⟩⟩ 2300),(.ref 141)⟩,⟨PyData.keyHash P ⟨⟨[95,108,97,119,95,108,101,120,101,114]⟩⟩,(.str ⟨⟨[95,108,97,119,95,108,101,120,101,114]⟩⟩ 2311),(.ref 148)⟩,⟨PyData.keyHash P ⟨⟨[95,108,97,119,95,104,105,100,100,101,110]⟩⟩,(.str ⟨⟨[95,108,97,119,95,104,105,100,100,101,110]⟩⟩ 2318),(.ref 155)⟩,⟨PyData.keyHash P ⟨⟨[95,108,97,119,95,98,101,115,105,100,101]⟩⟩,(.str ⟨⟨[95,108,97,119,95,98,101,115,105,100,101]⟩⟩ 2325),(.ref 162)⟩,⟨PyData.keyHash P ⟨⟨[95,108,97,119,95,112,105,101,99,101]⟩⟩,(.str ⟨⟨[95,108,97,119,95,112,105,101,99,101]⟩⟩ 2339),(.ref 169)⟩,⟨PyData.keyHash P ⟨⟨[95,108,97,119,95,116,101,120,116]⟩⟩,(.str ⟨⟨[95,108,97,119,95,116,101,120,116]⟩⟩ 2353),(.ref 176)⟩]⟩ 22),⟨[]⟩⟩
noncomputable def c17 (P : Params) : Obj := ⟨.none,none,(.fields ⟨[(.int (.ofNat 2) 0),(.int (.ofNat 0) 0),(.ref 20),(.int (.ofNat 46) 0),(.int (.ofNat 0) 0),(.ref 62),(.int (.ofNat 48) 0),(.int (.ofNat 0) 0),(.ref 69),(.int (.ofNat 50) 0),(.int (.ofNat 0) 0),(.ref 76),(.int (.ofNat 54) 0),(.int (.ofNat 0) 0),(.ref 94),(.int (.ofNat 57) 0),(.int (.ofNat 0) 0),(.ref 140),(.int (.ofNat 63) 0),(.int (.ofNat 0) 0),(.ref 147),(.int (.ofNat 69) 0),(.int (.ofNat 0) 0),(.ref 154),(.int (.ofNat 73) 0),(.int (.ofNat 0) 0),(.ref 161),(.int (.ofNat 75) 0),(.int (.ofNat 0) 0),(.ref 168),(.int (.ofNat 99) 0),(.int (.ofNat 0) 0),(.ref 175)]⟩),⟨[]⟩⟩
noncomputable def m18 (P : Params) : Obj := ⟨(.type "dict"),none,(.dict ⟨[⟨PyData.keyHash P ⟨⟨[95,95,110,97,109,101,95,95]⟩⟩,(.str ⟨⟨[95,95,110,97,109,101,95,95]⟩⟩ 165),(.str ⟨⟨[108,97,119,95,116,111,48,48,51,53,95,48,49]⟩⟩ 2301)⟩,⟨PyData.keyHash P ⟨⟨[95,95,100,111,99,95,95]⟩⟩,(.str ⟨⟨[95,95,100,111,99,95,95]⟩⟩ 166),.none⟩,⟨PyData.keyHash P ⟨⟨[95,95,112,97,99,107,97,103,101,95,95]⟩⟩,(.str ⟨⟨[95,95,112,97,99,107,97,103,101,95,95]⟩⟩ 167),.none⟩,⟨PyData.keyHash P ⟨⟨[95,95,108,111,97,100,101,114,95,95]⟩⟩,(.str ⟨⟨[95,95,108,111,97,100,101,114,95,95]⟩⟩ 168),(.builtin "__main__.__loader__#opaque")⟩,⟨PyData.keyHash P ⟨⟨[95,95,115,112,101,99,95,95]⟩⟩,(.str ⟨⟨[95,95,115,112,101,99,95,95]⟩⟩ 169),.none⟩,⟨PyData.keyHash P ⟨⟨[95,95,97,110,110,111,116,97,116,105,111,110,115,95,95]⟩⟩,(.str ⟨⟨[95,95,97,110,110,111,116,97,116,105,111,110,115,95,95]⟩⟩ 170),(.ref 6)⟩,⟨PyData.keyHash P ⟨⟨[95,95,98,117,105,108,116,105,110,115,95,95]⟩⟩,(.str ⟨⟨[95,95,98,117,105,108,116,105,110,115,95,95]⟩⟩ 171),(.ref 4)⟩,⟨PyData.keyHash P ⟨⟨[95,95,102,105,108,101,95,95]⟩⟩,(.str ⟨⟨[95,95,102,105,108,101,95,95]⟩⟩ 173),(.str ⟨⟨[47,99,108,97,105,109,47,99,117,116,46,112,121]⟩⟩ 172)⟩,⟨PyData.keyHash P ⟨⟨[95,95,99,97,99,104,101,100,95,95]⟩⟩,(.str ⟨⟨[95,95,99,97,99,104,101,100,95,95]⟩⟩ 174),.none⟩,⟨PyData.keyHash P ⟨⟨[95,110,101,116,114,99,108,101,120]⟩⟩,(.str ⟨⟨[95,110,101,116,114,99,108,101,120]⟩⟩ 246),(.ref 52)⟩,⟨PyData.keyHash P ⟨⟨[108,116]⟩⟩,(.str ⟨⟨[108,116]⟩⟩ 256),(.ref 63)⟩,⟨PyData.keyHash P ⟨⟨[97,100,100]⟩⟩,(.str ⟨⟨[97,100,100]⟩⟩ 264),(.ref 70)⟩,⟨PyData.keyHash P ⟨⟨[115,117,98]⟩⟩,(.str ⟨⟨[115,117,98]⟩⟩ 272),(.ref 77)⟩,⟨PyData.keyHash P ⟨⟨[98,49,95,115,101,116]⟩⟩,(.str ⟨⟨[98,49,95,115,101,116]⟩⟩ 334),(.ref 85)⟩,⟨PyData.keyHash P ⟨⟨[105,110,95,116,97,98,108,101,95,98,49]⟩⟩,(.str ⟨⟨[105,110,95,116,97,98,108,101,95,98,49]⟩⟩ 341),(.ref 95)⟩,⟨PyData.keyHash P ⟨⟨[98,51,95,101,120,99,101,112,116,105,111,110,115]⟩⟩,(.str ⟨⟨[98,51,95,101,120,99,101,112,116,105,111,110,115]⟩⟩ 2292),(.ref 96)⟩,⟨PyData.keyHash P ⟨⟨[109,97,112,95,116,97,98,108,101,95,98,51]⟩⟩,(.str ⟨⟨[109,97,112,95,116,97,98,108,101,95,98,51]⟩⟩ 2300),(.ref 141)⟩,⟨PyData.keyHash P ⟨⟨[95,108,97,119,95,108,101,120,101,114]⟩⟩,(.str ⟨⟨[95,108,97,119,95,108,101,120,101,114]⟩⟩ 2311),(.ref 148)⟩,⟨PyData.keyHash P ⟨⟨[95,108,97,119,95,104,105,100,100,101,110]⟩⟩,(.str ⟨⟨[95,108,97,119,95,104,105,100,100,101,110]⟩⟩ 2318),(.ref 155)⟩,⟨PyData.keyHash P ⟨⟨[95,108,97,119,95,98,101,115,105,100,101]⟩⟩,(.str ⟨⟨[95,108,97,119,95,98,101,115,105,100,101]⟩⟩ 2325),(.ref 162)⟩,⟨PyData.keyHash P ⟨⟨[95,108,97,119,95,112,105,101,99,101]⟩⟩,(.str ⟨⟨[95,108,97,119,95,112,105,101,99,101]⟩⟩ 2339),(.ref 169)⟩,⟨PyData.keyHash P ⟨⟨[95,108,97,119,95,116,101,120,116]⟩⟩,(.str ⟨⟨[95,108,97,119,95,116,101,120,116]⟩⟩ 2353),(.ref 176)⟩,⟨PyData.keyHash P ⟨⟨[95,108,97,119,95,112,114,101,112,97,114,101,100]⟩⟩,(.str ⟨⟨[95,108,97,119,95,112,114,101,112,97,114,101,100]⟩⟩ 2359),(.ref 181)⟩]⟩ 23),⟨[]⟩⟩
noncomputable def c18 (P : Params) : Obj := ⟨.none,none,(.fields ⟨[(.int (.ofNat 2) 0),(.int (.ofNat 0) 0),(.ref 20),(.int (.ofNat 46) 0),(.int (.ofNat 0) 0),(.ref 62),(.int (.ofNat 48) 0),(.int (.ofNat 0) 0),(.ref 69),(.int (.ofNat 50) 0),(.int (.ofNat 0) 0),(.ref 76),(.int (.ofNat 54) 0),(.int (.ofNat 0) 0),(.ref 94),(.int (.ofNat 57) 0),(.int (.ofNat 0) 0),(.ref 140),(.int (.ofNat 63) 0),(.int (.ofNat 0) 0),(.ref 147),(.int (.ofNat 69) 0),(.int (.ofNat 0) 0),(.ref 154),(.int (.ofNat 73) 0),(.int (.ofNat 0) 0),(.ref 161),(.int (.ofNat 75) 0),(.int (.ofNat 0) 0),(.ref 168),(.int (.ofNat 99) 0),(.int (.ofNat 0) 0),(.ref 175),(.int (.ofNat 111) 0),(.int (.ofNat 0) 0),(.ref 180)]⟩),⟨[]⟩⟩
noncomputable def m19 (P : Params) : Obj := ⟨(.type "dict"),none,(.dict ⟨[⟨PyData.keyHash P ⟨⟨[95,95,110,97,109,101,95,95]⟩⟩,(.str ⟨⟨[95,95,110,97,109,101,95,95]⟩⟩ 165),(.str ⟨⟨[108,97,119,95,116,111,48,48,51,53,95,48,49]⟩⟩ 2301)⟩,⟨PyData.keyHash P ⟨⟨[95,95,100,111,99,95,95]⟩⟩,(.str ⟨⟨[95,95,100,111,99,95,95]⟩⟩ 166),.none⟩,⟨PyData.keyHash P ⟨⟨[95,95,112,97,99,107,97,103,101,95,95]⟩⟩,(.str ⟨⟨[95,95,112,97,99,107,97,103,101,95,95]⟩⟩ 167),.none⟩,⟨PyData.keyHash P ⟨⟨[95,95,108,111,97,100,101,114,95,95]⟩⟩,(.str ⟨⟨[95,95,108,111,97,100,101,114,95,95]⟩⟩ 168),(.builtin "__main__.__loader__#opaque")⟩,⟨PyData.keyHash P ⟨⟨[95,95,115,112,101,99,95,95]⟩⟩,(.str ⟨⟨[95,95,115,112,101,99,95,95]⟩⟩ 169),.none⟩,⟨PyData.keyHash P ⟨⟨[95,95,97,110,110,111,116,97,116,105,111,110,115,95,95]⟩⟩,(.str ⟨⟨[95,95,97,110,110,111,116,97,116,105,111,110,115,95,95]⟩⟩ 170),(.ref 6)⟩,⟨PyData.keyHash P ⟨⟨[95,95,98,117,105,108,116,105,110,115,95,95]⟩⟩,(.str ⟨⟨[95,95,98,117,105,108,116,105,110,115,95,95]⟩⟩ 171),(.ref 4)⟩,⟨PyData.keyHash P ⟨⟨[95,95,102,105,108,101,95,95]⟩⟩,(.str ⟨⟨[95,95,102,105,108,101,95,95]⟩⟩ 173),(.str ⟨⟨[47,99,108,97,105,109,47,99,117,116,46,112,121]⟩⟩ 172)⟩,⟨PyData.keyHash P ⟨⟨[95,95,99,97,99,104,101,100,95,95]⟩⟩,(.str ⟨⟨[95,95,99,97,99,104,101,100,95,95]⟩⟩ 174),.none⟩,⟨PyData.keyHash P ⟨⟨[95,110,101,116,114,99,108,101,120]⟩⟩,(.str ⟨⟨[95,110,101,116,114,99,108,101,120]⟩⟩ 246),(.ref 52)⟩,⟨PyData.keyHash P ⟨⟨[108,116]⟩⟩,(.str ⟨⟨[108,116]⟩⟩ 256),(.ref 63)⟩,⟨PyData.keyHash P ⟨⟨[97,100,100]⟩⟩,(.str ⟨⟨[97,100,100]⟩⟩ 264),(.ref 70)⟩,⟨PyData.keyHash P ⟨⟨[115,117,98]⟩⟩,(.str ⟨⟨[115,117,98]⟩⟩ 272),(.ref 77)⟩,⟨PyData.keyHash P ⟨⟨[98,49,95,115,101,116]⟩⟩,(.str ⟨⟨[98,49,95,115,101,116]⟩⟩ 334),(.ref 85)⟩,⟨PyData.keyHash P ⟨⟨[105,110,95,116,97,98,108,101,95,98,49]⟩⟩,(.str ⟨⟨[105,110,95,116,97,98,108,101,95,98,49]⟩⟩ 341),(.ref 95)⟩,⟨PyData.keyHash P ⟨⟨[98,51,95,101,120,99,101,112,116,105,111,110,115]⟩⟩,(.str ⟨⟨[98,51,95,101,120,99,101,112,116,105,111,110,115]⟩⟩ 2292),(.ref 96)⟩,⟨PyData.keyHash P ⟨⟨[109,97,112,95,116,97,98,108,101,95,98,51]⟩⟩,(.str ⟨⟨[109,97,112,95,116,97,98,108,101,95,98,51]⟩⟩ 2300),(.ref 141)⟩,⟨PyData.keyHash P ⟨⟨[95,108,97,119,95,108,101,120,101,114]⟩⟩,(.str ⟨⟨[95,108,97,119,95,108,101,120,101,114]⟩⟩ 2311),(.ref 148)⟩,⟨PyData.keyHash P ⟨⟨[95,108,97,119,95,104,105,100,100,101,110]⟩⟩,(.str ⟨⟨[95,108,97,119,95,104,105,100,100,101,110]⟩⟩ 2318),(.ref 155)⟩,⟨PyData.keyHash P ⟨⟨[95,108,97,119,95,98,101,115,105,100,101]⟩⟩,(.str ⟨⟨[95,108,97,119,95,98,101,115,105,100,101]⟩⟩ 2325),(.ref 162)⟩,⟨PyData.keyHash P ⟨⟨[95,108,97,119,95,112,105,101,99,101]⟩⟩,(.str ⟨⟨[95,108,97,119,95,112,105,101,99,101]⟩⟩ 2339),(.ref 169)⟩,⟨PyData.keyHash P ⟨⟨[95,108,97,119,95,116,101,120,116]⟩⟩,(.str ⟨⟨[95,108,97,119,95,116,101,120,116]⟩⟩ 2353),(.ref 176)⟩,⟨PyData.keyHash P ⟨⟨[95,108,97,119,95,112,114,101,112,97,114,101,100]⟩⟩,(.str ⟨⟨[95,108,97,119,95,112,114,101,112,97,114,101,100]⟩⟩ 2359),(.ref 181)⟩,⟨PyData.keyHash P ⟨⟨[95,108,97,119,95,108,97,115,116,95,112,97,114,116]⟩⟩,(.str ⟨⟨[95,108,97,119,95,108,97,115,116,95,112,97,114,116]⟩⟩ 2365),(.ref 186)⟩]⟩ 24),⟨[]⟩⟩
noncomputable def c19 (P : Params) : Obj := ⟨.none,none,(.fields ⟨[(.int (.ofNat 2) 0),(.int (.ofNat 0) 0),(.ref 20),(.int (.ofNat 46) 0),(.int (.ofNat 0) 0),(.ref 62),(.int (.ofNat 48) 0),(.int (.ofNat 0) 0),(.ref 69),(.int (.ofNat 50) 0),(.int (.ofNat 0) 0),(.ref 76),(.int (.ofNat 54) 0),(.int (.ofNat 0) 0),(.ref 94),(.int (.ofNat 57) 0),(.int (.ofNat 0) 0),(.ref 140),(.int (.ofNat 63) 0),(.int (.ofNat 0) 0),(.ref 147),(.int (.ofNat 69) 0),(.int (.ofNat 0) 0),(.ref 154),(.int (.ofNat 73) 0),(.int (.ofNat 0) 0),(.ref 161),(.int (.ofNat 75) 0),(.int (.ofNat 0) 0),(.ref 168),(.int (.ofNat 99) 0),(.int (.ofNat 0) 0),(.ref 175),(.int (.ofNat 111) 0),(.int (.ofNat 0) 0),(.ref 180),(.int (.ofNat 116) 0),(.int (.ofNat 0) 0),(.ref 185)]⟩),⟨[]⟩⟩
noncomputable def m20 (P : Params) : Obj := ⟨(.type "dict"),none,(.dict ⟨[⟨PyData.keyHash P ⟨⟨[95,95,110,97,109,101,95,95]⟩⟩,(.str ⟨⟨[95,95,110,97,109,101,95,95]⟩⟩ 165),(.str ⟨⟨[108,97,119,95,116,111,48,48,51,53,95,48,49]⟩⟩ 2301)⟩,⟨PyData.keyHash P ⟨⟨[95,95,100,111,99,95,95]⟩⟩,(.str ⟨⟨[95,95,100,111,99,95,95]⟩⟩ 166),.none⟩,⟨PyData.keyHash P ⟨⟨[95,95,112,97,99,107,97,103,101,95,95]⟩⟩,(.str ⟨⟨[95,95,112,97,99,107,97,103,101,95,95]⟩⟩ 167),.none⟩,⟨PyData.keyHash P ⟨⟨[95,95,108,111,97,100,101,114,95,95]⟩⟩,(.str ⟨⟨[95,95,108,111,97,100,101,114,95,95]⟩⟩ 168),(.builtin "__main__.__loader__#opaque")⟩,⟨PyData.keyHash P ⟨⟨[95,95,115,112,101,99,95,95]⟩⟩,(.str ⟨⟨[95,95,115,112,101,99,95,95]⟩⟩ 169),.none⟩,⟨PyData.keyHash P ⟨⟨[95,95,97,110,110,111,116,97,116,105,111,110,115,95,95]⟩⟩,(.str ⟨⟨[95,95,97,110,110,111,116,97,116,105,111,110,115,95,95]⟩⟩ 170),(.ref 6)⟩,⟨PyData.keyHash P ⟨⟨[95,95,98,117,105,108,116,105,110,115,95,95]⟩⟩,(.str ⟨⟨[95,95,98,117,105,108,116,105,110,115,95,95]⟩⟩ 171),(.ref 4)⟩,⟨PyData.keyHash P ⟨⟨[95,95,102,105,108,101,95,95]⟩⟩,(.str ⟨⟨[95,95,102,105,108,101,95,95]⟩⟩ 173),(.str ⟨⟨[47,99,108,97,105,109,47,99,117,116,46,112,121]⟩⟩ 172)⟩,⟨PyData.keyHash P ⟨⟨[95,95,99,97,99,104,101,100,95,95]⟩⟩,(.str ⟨⟨[95,95,99,97,99,104,101,100,95,95]⟩⟩ 174),.none⟩,⟨PyData.keyHash P ⟨⟨[95,110,101,116,114,99,108,101,120]⟩⟩,(.str ⟨⟨[95,110,101,116,114,99,108,101,120]⟩⟩ 246),(.ref 52)⟩,⟨PyData.keyHash P ⟨⟨[108,116]⟩⟩,(.str ⟨⟨[108,116]⟩⟩ 256),(.ref 63)⟩,⟨PyData.keyHash P ⟨⟨[97,100,100]⟩⟩,(.str ⟨⟨[97,100,100]⟩⟩ 264),(.ref 70)⟩,⟨PyData.keyHash P ⟨⟨[115,117,98]⟩⟩,(.str ⟨⟨[115,117,98]⟩⟩ 272),(.ref 77)⟩,⟨PyData.keyHash P ⟨⟨[98,49,95,115,101,116]⟩⟩,(.str ⟨⟨[98,49,95,115,101,116]⟩⟩ 334),(.ref 85)⟩,⟨PyData.keyHash P ⟨⟨[105,110,95,116,97,98,108,101,95,98,49]⟩⟩,(.str ⟨⟨[105,110,95,116,97,98,108,101,95,98,49]⟩⟩ 341),(.ref 95)⟩,⟨PyData.keyHash P ⟨⟨[98,51,95,101,120,99,101,112,116,105,111,110,115]⟩⟩,(.str ⟨⟨[98,51,95,101,120,99,101,112,116,105,111,110,115]⟩⟩ 2292),(.ref 96)⟩,⟨PyData.keyHash P ⟨⟨[109,97,112,95,116,97,98,108,101,95,98,51]⟩⟩,(.str ⟨⟨[109,97,112,95,116,97,98,108,101,95,98,51]⟩⟩ 2300),(.ref 141)⟩,⟨PyData.keyHash P ⟨⟨[95,108,97,119,95,108,101,120,101,114]⟩⟩,(.str ⟨⟨[95,108,97,119,95,108,101,120,101,114]⟩⟩ 2311),(.ref 148)⟩,⟨PyData.keyHash P ⟨⟨[95,108,97,119,95,104,105,100,100,101,110]⟩⟩,(.str ⟨⟨[95,108,97,119,95,104,105,100,100,101,110]⟩⟩ 2318),(.ref 155)⟩,⟨PyData.keyHash P ⟨⟨[95,108,97,119,95,98,101,115,105,100,101]⟩⟩,(.str ⟨⟨[95,108,97,119,95,98,101,115,105,100,101]⟩⟩ 2325),(.ref 162)⟩,⟨PyData.keyHash P ⟨⟨[95,108,97,119,95,112,105,101,99,101]⟩⟩,(.str ⟨⟨[95,108,97,119,95,112,105,101,99,101]⟩⟩ 2339),(.ref 169)⟩,⟨PyData.keyHash P ⟨⟨[95,108,97,119,95,116,101,120,116]⟩⟩,(.str ⟨⟨[95,108,97,119,95,116,101,120,116]⟩⟩ 2353),(.ref 176)⟩,⟨PyData.keyHash P ⟨⟨[95,108,97,119,95,112,114,101,112,97,114,101,100]⟩⟩,(.str ⟨⟨[95,108,97,119,95,112,114,101,112,97,114,101,100]⟩⟩ 2359),(.ref 181)⟩,⟨PyData.keyHash P ⟨⟨[95,108,97,119,95,108,97,115,116,95,112,97,114,116]⟩⟩,(.str ⟨⟨[95,108,97,119,95,108,97,115,116,95,112,97,114,116]⟩⟩ 2365),(.ref 186)⟩,⟨PyData.keyHash P ⟨⟨[108,97,119]⟩⟩,(.str ⟨⟨[108,97,119]⟩⟩ 2371),(.ref 191)⟩]⟩ 25),⟨[]⟩⟩
noncomputable def c20 (P : Params) : Obj := ⟨.none,none,(.fields ⟨[(.int (.ofNat 2) 0),(.int (.ofNat 0) 0),(.ref 20),(.int (.ofNat 46) 0),(.int (.ofNat 0) 0),(.ref 62),(.int (.ofNat 48) 0),(.int (.ofNat 0) 0),(.ref 69),(.int (.ofNat 50) 0),(.int (.ofNat 0) 0),(.ref 76),(.int (.ofNat 54) 0),(.int (.ofNat 0) 0),(.ref 94),(.int (.ofNat 57) 0),(.int (.ofNat 0) 0),(.ref 140),(.int (.ofNat 63) 0),(.int (.ofNat 0) 0),(.ref 147),(.int (.ofNat 69) 0),(.int (.ofNat 0) 0),(.ref 154),(.int (.ofNat 73) 0),(.int (.ofNat 0) 0),(.ref 161),(.int (.ofNat 75) 0),(.int (.ofNat 0) 0),(.ref 168),(.int (.ofNat 99) 0),(.int (.ofNat 0) 0),(.ref 175),(.int (.ofNat 111) 0),(.int (.ofNat 0) 0),(.ref 180),(.int (.ofNat 116) 0),(.int (.ofNat 0) 0),(.ref 185),(.int (.ofNat 121) 0),(.int (.ofNat 0) 0),(.ref 190)]⟩),⟨[]⟩⟩
noncomputable def t0 (P : Params) : BT := (.node (boot_o_0 P) (.node (boot_o_1 P) (.node (m0 P) (.node (boot_o_7 P) .nil .nil) (.node (o11 P) .nil .nil)) (.node (boot_o_5 P) (.node (boot_o_9 P) .nil .nil) (.node (o13 P) .nil .nil))) (.node (boot_o_2 P) (.node (boot_o_4 P) (.node (boot_o_8 P) .nil .nil) (.node (c0 P) .nil .nil)) (.node (boot_o_6 P) (.node (boot_o_10 P) .nil .nil) (.node (o14 P) .nil .nil))))
noncomputable def s0 (w : World) (os : OsState) : SharedT := ⟨t0 w.params,15,({} : Life),⟨[]⟩,boot_drawn,187,os⟩
noncomputable def t1 (P : Params) : BT := (.node (boot_o_0 P) (.node (boot_o_1 P) (.node (m1 P) (.node (boot_o_7 P) .nil .nil) (.node (o11 P) .nil .nil)) (.node (boot_o_5 P) (.node (boot_o_9 P) .nil .nil) (.node (o13 P) .nil .nil))) (.node (boot_o_2 P) (.node (boot_o_4 P) (.node (boot_o_8 P) .nil .nil) (.node (c1 P) .nil .nil)) (.node (boot_o_6 P) (.node (boot_o_10 P) .nil .nil) (.node (o14 P) .nil .nil))))
noncomputable def s1 (w : World) (os : OsState) : SharedT := ⟨t1 w.params,15,({} : Life),⟨[]⟩,boot_drawn,189,os⟩
noncomputable def t2 (P : Params) : BT := (.node (boot_o_0 P) (.node (boot_o_1 P) (.node (m2 P) (.node (boot_o_7 P) (.node (o15 P) (.node (o31 P) .nil .nil) (.node (o47 P) .nil .nil)) (.node (o23 P) (.node (o39 P) .nil .nil) (.node (o55 P) .nil .nil))) (.node (o11 P) (.node (o19 P) (.node (o35 P) .nil .nil) (.node (o51 P) .nil .nil)) (.node (o27 P) (.node (o43 P) .nil .nil) .nil))) (.node (boot_o_5 P) (.node (boot_o_9 P) (.node (o17 P) (.node (o33 P) .nil .nil) (.node (o49 P) .nil .nil)) (.node (o25 P) (.node (o41 P) .nil .nil) .nil)) (.node (o13 P) (.node (o21 P) (.node (o37 P) .nil .nil) (.node (o53 P) .nil .nil)) (.node (o29 P) (.node (o45 P) .nil .nil) .nil)))) (.node (boot_o_2 P) (.node (boot_o_4 P) (.node (boot_o_8 P) (.node (o16 P) (.node (o32 P) .nil .nil) (.node (o48 P) .nil .nil)) (.node (o24 P) (.node (o40 P) .nil .nil) (.node (o56 P) .nil .nil))) (.node (c2 P) (.node (o20 P) (.node (o36 P) .nil .nil) (.node (o52 P) .nil .nil)) (.node (o28 P) (.node (o44 P) .nil .nil) .nil))) (.node (boot_o_6 P) (.node (boot_o_10 P) (.node (o18 P) (.node (o34 P) .nil .nil) (.node (o50 P) .nil .nil)) (.node (o26 P) (.node (o42 P) .nil .nil) .nil)) (.node (o14 P) (.node (o22 P) (.node (o38 P) .nil .nil) (.node (o54 P) .nil .nil)) (.node (o30 P) (.node (o46 P) .nil .nil) .nil)))))
noncomputable def s2 (w : World) (os : OsState) : SharedT := ⟨t2 w.params,57,({} : Life),⟨[]⟩,boot_drawn,247,os⟩
noncomputable def t3 (P : Params) : BT := (.node (boot_o_0 P) (.node (boot_o_1 P) (.node (m3 P) (.node (boot_o_7 P) (.node (o15 P) (.node (o31 P) .nil .nil) (.node (o47 P) .nil .nil)) (.node (o23 P) (.node (o39 P) .nil .nil) (.node (o55 P) .nil .nil))) (.node (o11 P) (.node (o19 P) (.node (o35 P) .nil .nil) (.node (o51 P) .nil .nil)) (.node (o27 P) (.node (o43 P) .nil .nil) .nil))) (.node (boot_o_5 P) (.node (boot_o_9 P) (.node (o17 P) (.node (o33 P) .nil .nil) (.node (o49 P) .nil .nil)) (.node (o25 P) (.node (o41 P) .nil .nil) .nil)) (.node (o13 P) (.node (o21 P) (.node (o37 P) .nil .nil) (.node (o53 P) .nil .nil)) (.node (o29 P) (.node (o45 P) .nil .nil) .nil)))) (.node (boot_o_2 P) (.node (boot_o_4 P) (.node (boot_o_8 P) (.node (o16 P) (.node (o32 P) .nil .nil) (.node (o48 P) .nil .nil)) (.node (o24 P) (.node (o40 P) .nil .nil) (.node (o56 P) .nil .nil))) (.node (c3 P) (.node (o20 P) (.node (o36 P) .nil .nil) (.node (o52 P) .nil .nil)) (.node (o28 P) (.node (o44 P) .nil .nil) .nil))) (.node (boot_o_6 P) (.node (boot_o_10 P) (.node (o18 P) (.node (o34 P) .nil .nil) (.node (o50 P) .nil .nil)) (.node (o26 P) (.node (o42 P) .nil .nil) .nil)) (.node (o14 P) (.node (o22 P) (.node (o38 P) .nil .nil) (.node (o54 P) .nil .nil)) (.node (o30 P) (.node (o46 P) .nil .nil) .nil)))))
noncomputable def s3 (w : World) (os : OsState) : SharedT := ⟨t3 w.params,57,({} : Life),⟨[]⟩,boot_drawn,249,os⟩
noncomputable def t4 (P : Params) : BT := (.node (boot_o_0 P) (.node (boot_o_1 P) (.node (m4 P) (.node (boot_o_7 P) (.node (o15 P) (.node (o31 P) (.node (o63 P) .nil .nil) .nil) (.node (o47 P) .nil .nil)) (.node (o23 P) (.node (o39 P) .nil .nil) (.node (o55 P) .nil .nil))) (.node (o11 P) (.node (o19 P) (.node (o35 P) .nil .nil) (.node (o51 P) .nil .nil)) (.node (o27 P) (.node (o43 P) .nil .nil) (.node (o59 P) .nil .nil)))) (.node (boot_o_5 P) (.node (boot_o_9 P) (.node (o17 P) (.node (o33 P) .nil .nil) (.node (o49 P) .nil .nil)) (.node (o25 P) (.node (o41 P) .nil .nil) (.node (o57 P) .nil .nil))) (.node (o13 P) (.node (o21 P) (.node (o37 P) .nil .nil) (.node (o53 P) .nil .nil)) (.node (o29 P) (.node (o45 P) .nil .nil) (.node (o61 P) .nil .nil))))) (.node (boot_o_2 P) (.node (boot_o_4 P) (.node (boot_o_8 P) (.node (o16 P) (.node (o32 P) .nil .nil) (.node (o48 P) .nil .nil)) (.node (o24 P) (.node (o40 P) .nil .nil) (.node (o56 P) .nil .nil))) (.node (c4 P) (.node (o20 P) (.node (o36 P) .nil .nil) (.node (o52 P) .nil .nil)) (.node (o28 P) (.node (o44 P) .nil .nil) (.node (o60 P) .nil .nil)))) (.node (boot_o_6 P) (.node (boot_o_10 P) (.node (o18 P) (.node (o34 P) .nil .nil) (.node (o50 P) .nil .nil)) (.node (o26 P) (.node (o42 P) .nil .nil) (.node (o58 P) .nil .nil))) (.node (o14 P) (.node (o22 P) (.node (o38 P) .nil .nil) (.node (o54 P) .nil .nil)) (.node (o30 P) (.node (o46 P) .nil .nil) (.node (o62 P) .nil .nil))))))
noncomputable def s4 (w : World) (os : OsState) : SharedT := ⟨t4 w.params,64,({} : Life),⟨[]⟩,boot_drawn,257,os⟩
noncomputable def t5 (P : Params) : BT := (.node (boot_o_0 P) (.node (boot_o_1 P) (.node (m5 P) (.node (boot_o_7 P) (.node (o15 P) (.node (o31 P) (.node (o63 P) .nil .nil) .nil) (.node (o47 P) .nil .nil)) (.node (o23 P) (.node (o39 P) .nil .nil) (.node (o55 P) .nil .nil))) (.node (o11 P) (.node (o19 P) (.node (o35 P) (.node (o67 P) .nil .nil) .nil) (.node (o51 P) .nil .nil)) (.node (o27 P) (.node (o43 P) .nil .nil) (.node (o59 P) .nil .nil)))) (.node (boot_o_5 P) (.node (boot_o_9 P) (.node (o17 P) (.node (o33 P) (.node (o65 P) .nil .nil) .nil) (.node (o49 P) .nil .nil)) (.node (o25 P) (.node (o41 P) .nil .nil) (.node (o57 P) .nil .nil))) (.node (o13 P) (.node (o21 P) (.node (o37 P) (.node (o69 P) .nil .nil) .nil) (.node (o53 P) .nil .nil)) (.node (o29 P) (.node (o45 P) .nil .nil) (.node (o61 P) .nil .nil))))) (.node (boot_o_2 P) (.node (boot_o_4 P) (.node (boot_o_8 P) (.node (o16 P) (.node (o32 P) (.node (o64 P) .nil .nil) .nil) (.node (o48 P) .nil .nil)) (.node (o24 P) (.node (o40 P) .nil .nil) (.node (o56 P) .nil .nil))) (.node (c5 P) (.node (o20 P) (.node (o36 P) (.node (o68 P) .nil .nil) .nil) (.node (o52 P) .nil .nil)) (.node (o28 P) (.node (o44 P) .nil .nil) (.node (o60 P) .nil .nil)))) (.node (boot_o_6 P) (.node (boot_o_10 P) (.node (o18 P) (.node (o34 P) (.node (o66 P) .nil .nil) .nil) (.node (o50 P) .nil .nil)) (.node (o26 P) (.node (o42 P) .nil .nil) (.node (o58 P) .nil .nil))) (.node (o14 P) (.node (o22 P) (.node (o38 P) (.node (o70 P) .nil .nil) .nil) (.node (o54 P) .nil .nil)) (.node (o30 P) (.node (o46 P) .nil .nil) (.node (o62 P) .nil .nil))))))
noncomputable def s5 (w : World) (os : OsState) : SharedT := ⟨t5 w.params,71,({} : Life),⟨[]⟩,boot_drawn,265,os⟩
noncomputable def t6 (P : Params) : BT := (.node (boot_o_0 P) (.node (boot_o_1 P) (.node (m6 P) (.node (boot_o_7 P) (.node (o15 P) (.node (o31 P) (.node (o63 P) .nil .nil) .nil) (.node (o47 P) .nil .nil)) (.node (o23 P) (.node (o39 P) (.node (o71 P) .nil .nil) .nil) (.node (o55 P) .nil .nil))) (.node (o11 P) (.node (o19 P) (.node (o35 P) (.node (o67 P) .nil .nil) .nil) (.node (o51 P) .nil .nil)) (.node (o27 P) (.node (o43 P) (.node (o75 P) .nil .nil) .nil) (.node (o59 P) .nil .nil)))) (.node (boot_o_5 P) (.node (boot_o_9 P) (.node (o17 P) (.node (o33 P) (.node (o65 P) .nil .nil) .nil) (.node (o49 P) .nil .nil)) (.node (o25 P) (.node (o41 P) (.node (o73 P) .nil .nil) .nil) (.node (o57 P) .nil .nil))) (.node (o13 P) (.node (o21 P) (.node (o37 P) (.node (o69 P) .nil .nil) .nil) (.node (o53 P) .nil .nil)) (.node (o29 P) (.node (o45 P) (.node (o77 P) .nil .nil) .nil) (.node (o61 P) .nil .nil))))) (.node (boot_o_2 P) (.node (boot_o_4 P) (.node (boot_o_8 P) (.node (o16 P) (.node (o32 P) (.node (o64 P) .nil .nil) .nil) (.node (o48 P) .nil .nil)) (.node (o24 P) (.node (o40 P) (.node (o72 P) .nil .nil) .nil) (.node (o56 P) .nil .nil))) (.node (c6 P) (.node (o20 P) (.node (o36 P) (.node (o68 P) .nil .nil) .nil) (.node (o52 P) .nil .nil)) (.node (o28 P) (.node (o44 P) (.node (o76 P) .nil .nil) .nil) (.node (o60 P) .nil .nil)))) (.node (boot_o_6 P) (.node (boot_o_10 P) (.node (o18 P) (.node (o34 P) (.node (o66 P) .nil .nil) .nil) (.node (o50 P) .nil .nil)) (.node (o26 P) (.node (o42 P) (.node (o74 P) .nil .nil) .nil) (.node (o58 P) .nil .nil))) (.node (o14 P) (.node (o22 P) (.node (o38 P) (.node (o70 P) .nil .nil) .nil) (.node (o54 P) .nil .nil)) (.node (o30 P) (.node (o46 P) .nil .nil) (.node (o62 P) .nil .nil))))))
noncomputable def s6 (w : World) (os : OsState) : SharedT := ⟨t6 w.params,78,({} : Life),⟨[]⟩,boot_drawn,273,os⟩
noncomputable def t7 (P : Params) : BT := (.node (boot_o_0 P) (.node (boot_o_1 P) (.node (m7 P) (.node (boot_o_7 P) (.node (o15 P) (.node (o31 P) (.node (o63 P) .nil .nil) .nil) (.node (o47 P) .nil .nil)) (.node (o23 P) (.node (o39 P) (.node (o71 P) .nil .nil) .nil) (.node (o55 P) .nil .nil))) (.node (o11 P) (.node (o19 P) (.node (o35 P) (.node (o67 P) .nil .nil) .nil) (.node (o51 P) .nil .nil)) (.node (o27 P) (.node (o43 P) (.node (o75 P) .nil .nil) .nil) (.node (o59 P) .nil .nil)))) (.node (boot_o_5 P) (.node (boot_o_9 P) (.node (o17 P) (.node (o33 P) (.node (o65 P) .nil .nil) .nil) (.node (o49 P) .nil .nil)) (.node (o25 P) (.node (o41 P) (.node (o73 P) .nil .nil) .nil) (.node (o57 P) .nil .nil))) (.node (o13 P) (.node (o21 P) (.node (o37 P) (.node (o69 P) .nil .nil) .nil) (.node (o53 P) .nil .nil)) (.node (o29 P) (.node (o45 P) (.node (o77 P) .nil .nil) .nil) (.node (o61 P) .nil .nil))))) (.node (boot_o_2 P) (.node (boot_o_4 P) (.node (boot_o_8 P) (.node (o16 P) (.node (o32 P) (.node (o64 P) .nil .nil) .nil) (.node (o48 P) .nil .nil)) (.node (o24 P) (.node (o40 P) (.node (o72 P) .nil .nil) .nil) (.node (o56 P) .nil .nil))) (.node (c7 P) (.node (o20 P) (.node (o36 P) (.node (o68 P) .nil .nil) .nil) (.node (o52 P) .nil .nil)) (.node (o28 P) (.node (o44 P) (.node (o76 P) .nil .nil) .nil) (.node (o60 P) .nil .nil)))) (.node (boot_o_6 P) (.node (boot_o_10 P) (.node (o18 P) (.node (o34 P) (.node (o66 P) .nil .nil) .nil) (.node (o50 P) .nil .nil)) (.node (o26 P) (.node (o42 P) (.node (o74 P) .nil .nil) .nil) (.node (o58 P) .nil .nil))) (.node (o14 P) (.node (o22 P) (.node (o38 P) (.node (o70 P) .nil .nil) .nil) (.node (o54 P) .nil .nil)) (.node (o30 P) (.node (o46 P) .nil .nil) (.node (o62 P) .nil .nil))))))
noncomputable def s7 (w : World) (os : OsState) : SharedT := ⟨t7 w.params,78,({} : Life),⟨[]⟩,boot_drawn,275,os⟩
noncomputable def t8 (P : Params) : BT := (.node (boot_o_0 P) (.node (boot_o_1 P) (.node (m8 P) (.node (boot_o_7 P) (.node (o15 P) (.node (o31 P) (.node (o63 P) .nil .nil) .nil) (.node (o47 P) (.node (o79 P) .nil .nil) .nil)) (.node (o23 P) (.node (o39 P) (.node (o71 P) .nil .nil) .nil) (.node (o55 P) (.node (o87 P) .nil .nil) .nil))) (.node (o11 P) (.node (o19 P) (.node (o35 P) (.node (o67 P) .nil .nil) .nil) (.node (o51 P) (.node (o83 P) .nil .nil) .nil)) (.node (o27 P) (.node (o43 P) (.node (o75 P) .nil .nil) .nil) (.node (o59 P) .nil .nil)))) (.node (boot_o_5 P) (.node (boot_o_9 P) (.node (o17 P) (.node (o33 P) (.node (o65 P) .nil .nil) .nil) (.node (o49 P) (.node (o81 P) .nil .nil) .nil)) (.node (o25 P) (.node (o41 P) (.node (o73 P) .nil .nil) .nil) (.node (o57 P) .nil .nil))) (.node (o13 P) (.node (o21 P) (.node (o37 P) (.node (o69 P) .nil .nil) .nil) (.node (o53 P) (.node (o85 P) .nil .nil) .nil)) (.node (o29 P) (.node (o45 P) (.node (o77 P) .nil .nil) .nil) (.node (o61 P) .nil .nil))))) (.node (boot_o_2 P) (.node (boot_o_4 P) (.node (boot_o_8 P) (.node (o16 P) (.node (o32 P) (.node (o64 P) .nil .nil) .nil) (.node (o48 P) (.node (o80 P) .nil .nil) .nil)) (.node (o24 P) (.node (o40 P) (.node (o72 P) .nil .nil) .nil) (.node (o56 P) (.node (o88 P) .nil .nil) .nil))) (.node (c8 P) (.node (o20 P) (.node (o36 P) (.node (o68 P) .nil .nil) .nil) (.node (o52 P) (.node (o84 P) .nil .nil) .nil)) (.node (o28 P) (.node (o44 P) (.node (o76 P) .nil .nil) .nil) (.node (o60 P) .nil .nil)))) (.node (boot_o_6 P) (.node (boot_o_10 P) (.node (o18 P) (.node (o34 P) (.node (o66 P) .nil .nil) .nil) (.node (o50 P) (.node (o82 P) .nil .nil) .nil)) (.node (o26 P) (.node (o42 P) (.node (o74 P) .nil .nil) .nil) (.node (o58 P) .nil .nil))) (.node (o14 P) (.node (o22 P) (.node (o38 P) (.node (o70 P) .nil .nil) .nil) (.node (o54 P) (.node (o86 P) .nil .nil) .nil)) (.node (o30 P) (.node (o46 P) (.node (o78 P) .nil .nil) .nil) (.node (o62 P) .nil .nil))))))
noncomputable def s8 (w : World) (os : OsState) : SharedT := ⟨t8 w.params,89,({} : Life),⟨[]⟩,boot_drawn,335,os⟩
noncomputable def t9 (P : Params) : BT := (.node (boot_o_0 P) (.node (boot_o_1 P) (.node (m9 P) (.node (boot_o_7 P) (.node (o15 P) (.node (o31 P) (.node (o63 P) .nil .nil) (.node (o95 P) .nil .nil)) (.node (o47 P) (.node (o79 P) .nil .nil) .nil)) (.node (o23 P) (.node (o39 P) (.node (o71 P) .nil .nil) .nil) (.node (o55 P) (.node (o87 P) .nil .nil) .nil))) (.node (o11 P) (.node (o19 P) (.node (o35 P) (.node (o67 P) .nil .nil) .nil) (.node (o51 P) (.node (o83 P) .nil .nil) .nil)) (.node (o27 P) (.node (o43 P) (.node (o75 P) .nil .nil) .nil) (.node (o59 P) (.node (o91 P) .nil .nil) .nil)))) (.node (boot_o_5 P) (.node (boot_o_9 P) (.node (o17 P) (.node (o33 P) (.node (o65 P) .nil .nil) .nil) (.node (o49 P) (.node (o81 P) .nil .nil) .nil)) (.node (o25 P) (.node (o41 P) (.node (o73 P) .nil .nil) .nil) (.node (o57 P) (.node (o89 P) .nil .nil) .nil))) (.node (o13 P) (.node (o21 P) (.node (o37 P) (.node (o69 P) .nil .nil) .nil) (.node (o53 P) (.node (o85 P) .nil .nil) .nil)) (.node (o29 P) (.node (o45 P) (.node (o77 P) .nil .nil) .nil) (.node (o61 P) (.node (o93 P) .nil .nil) .nil))))) (.node (boot_o_2 P) (.node (boot_o_4 P) (.node (boot_o_8 P) (.node (o16 P) (.node (o32 P) (.node (o64 P) .nil .nil) .nil) (.node (o48 P) (.node (o80 P) .nil .nil) .nil)) (.node (o24 P) (.node (o40 P) (.node (o72 P) .nil .nil) .nil) (.node (o56 P) (.node (o88 P) .nil .nil) .nil))) (.node (c9 P) (.node (o20 P) (.node (o36 P) (.node (o68 P) .nil .nil) .nil) (.node (o52 P) (.node (o84 P) .nil .nil) .nil)) (.node (o28 P) (.node (o44 P) (.node (o76 P) .nil .nil) .nil) (.node (o60 P) (.node (o92 P) .nil .nil) .nil)))) (.node (boot_o_6 P) (.node (boot_o_10 P) (.node (o18 P) (.node (o34 P) (.node (o66 P) .nil .nil) .nil) (.node (o50 P) (.node (o82 P) .nil .nil) .nil)) (.node (o26 P) (.node (o42 P) (.node (o74 P) .nil .nil) .nil) (.node (o58 P) (.node (o90 P) .nil .nil) .nil))) (.node (o14 P) (.node (o22 P) (.node (o38 P) (.node (o70 P) .nil .nil) .nil) (.node (o54 P) (.node (o86 P) .nil .nil) .nil)) (.node (o30 P) (.node (o46 P) (.node (o78 P) .nil .nil) .nil) (.node (o62 P) (.node (o94 P) .nil .nil) .nil))))))
noncomputable def s9 (w : World) (os : OsState) : SharedT := ⟨t9 w.params,96,({} : Life),⟨[]⟩,boot_drawn,342,os⟩
noncomputable def t10 (P : Params) : BT := (.node (boot_o_0 P) (.node (boot_o_1 P) (.node (m10 P) (.node (boot_o_7 P) (.node (o15 P) (.node (o31 P) (.node (o63 P) (.node (o127 P) .nil .nil) .nil) (.node (o95 P) .nil .nil)) (.node (o47 P) (.node (o79 P) .nil .nil) (.node (o111 P) .nil .nil))) (.node (o23 P) (.node (o39 P) (.node (o71 P) .nil .nil) (.node (o103 P) .nil .nil)) (.node (o55 P) (.node (o87 P) .nil .nil) (.node (o119 P) .nil .nil)))) (.node (o11 P) (.node (o19 P) (.node (o35 P) (.node (o67 P) (.node (o131 P) .nil .nil) .nil) (.node (o99 P) .nil .nil)) (.node (o51 P) (.node (o83 P) .nil .nil) (.node (o115 P) .nil .nil))) (.node (o27 P) (.node (o43 P) (.node (o75 P) .nil .nil) (.node (o107 P) .nil .nil)) (.node (o59 P) (.node (o91 P) .nil .nil) (.node (o123 P) .nil .nil))))) (.node (boot_o_5 P) (.node (boot_o_9 P) (.node (o17 P) (.node (o33 P) (.node (o65 P) (.node (o129 P) .nil .nil) .nil) (.node (o97 P) .nil .nil)) (.node (o49 P) (.node (o81 P) .nil .nil) (.node (o113 P) .nil .nil))) (.node (o25 P) (.node (o41 P) (.node (o73 P) .nil .nil) (.node (o105 P) .nil .nil)) (.node (o57 P) (.node (o89 P) .nil .nil) (.node (o121 P) .nil .nil)))) (.node (o13 P) (.node (o21 P) (.node (o37 P) (.node (o69 P) (.node (o133 P) .nil .nil) .nil) (.node (o101 P) .nil .nil)) (.node (o53 P) (.node (o85 P) .nil .nil) (.node (o117 P) .nil .nil))) (.node (o29 P) (.node (o45 P) (.node (o77 P) .nil .nil) (.node (o109 P) .nil .nil)) (.node (o61 P) (.node (o93 P) .nil .nil) (.node (o125 P) .nil .nil)))))) (.node (boot_o_2 P) (.node (boot_o_4 P) (.node (boot_o_8 P) (.node (o16 P) (.node (o32 P) (.node (o64 P) (.node (o128 P) .nil .nil) .nil) (.node (o96 P) .nil .nil)) (.node (o48 P) (.node (o80 P) .nil .nil) (.node (o112 P) .nil .nil))) (.node (o24 P) (.node (o40 P) (.node (o72 P) .nil .nil) (.node (o104 P) .nil .nil)) (.node (o56 P) (.node (o88 P) .nil .nil) (.node (o120 P) .nil .nil)))) (.node (c10 P) (.node (o20 P) (.node (o36 P) (.node (o68 P) (.node (o132 P) .nil .nil) .nil) (.node (o100 P) .nil .nil)) (.node (o52 P) (.node (o84 P) .nil .nil) (.node (o116 P) .nil .nil))) (.node (o28 P) (.node (o44 P) (.node (o76 P) .nil .nil) (.node (o108 P) .nil .nil)) (.node (o60 P) (.node (o92 P) .nil .nil) (.node (o124 P) .nil .nil))))) (.node (boot_o_6 P) (.node (boot_o_10 P) (.node (o18 P) (.node (o34 P) (.node (o66 P) (.node (o130 P) .nil .nil) .nil) (.node (o98 P) .nil .nil)) (.node (o50 P) (.node (o82 P) .nil .nil) (.node (o114 P) .nil .nil))) (.node (o26 P) (.node (o42 P) (.node (o74 P) .nil .nil) (.node (o106 P) .nil .nil)) (.node (o58 P) (.node (o90 P) .nil .nil) (.node (o122 P) .nil .nil)))) (.node (o14 P) (.node (o22 P) (.node (o38 P) (.node (o70 P) (.node (o134 P) .nil .nil) .nil) (.node (o102 P) .nil .nil)) (.node (o54 P) (.node (o86 P) .nil .nil) (.node (o118 P) .nil .nil))) (.node (o30 P) (.node (o46 P) (.node (o78 P) .nil .nil) (.node (o110 P) .nil .nil)) (.node (o62 P) (.node (o94 P) .nil .nil) (.node (o126 P) .nil .nil)))))))
noncomputable def s10 (w : World) (os : OsState) : SharedT := ⟨t10 w.params,135,({} : Life),⟨[]⟩,boot_drawn,2293,os⟩
noncomputable def t11 (P : Params) : BT := (.node (boot_o_0 P) (.node (boot_o_1 P) (.node (m11 P) (.node (boot_o_7 P) (.node (o15 P) (.node (o31 P) (.node (o63 P) (.node (o127 P) .nil .nil) .nil) (.node (o95 P) .nil .nil)) (.node (o47 P) (.node (o79 P) .nil .nil) (.node (o111 P) .nil .nil))) (.node (o23 P) (.node (o39 P) (.node (o71 P) (.node (o135 P) .nil .nil) .nil) (.node (o103 P) .nil .nil)) (.node (o55 P) (.node (o87 P) .nil .nil) (.node (o119 P) .nil .nil)))) (.node (o11 P) (.node (o19 P) (.node (o35 P) (.node (o67 P) (.node (o131 P) .nil .nil) .nil) (.node (o99 P) .nil .nil)) (.node (o51 P) (.node (o83 P) .nil .nil) (.node (o115 P) .nil .nil))) (.node (o27 P) (.node (o43 P) (.node (o75 P) (.node (o139 P) .nil .nil) .nil) (.node (o107 P) .nil .nil)) (.node (o59 P) (.node (o91 P) .nil .nil) (.node (o123 P) .nil .nil))))) (.node (boot_o_5 P) (.node (boot_o_9 P) (.node (o17 P) (.node (o33 P) (.node (o65 P) (.node (o129 P) .nil .nil) .nil) (.node (o97 P) .nil .nil)) (.node (o49 P) (.node (o81 P) .nil .nil) (.node (o113 P) .nil .nil))) (.node (o25 P) (.node (o41 P) (.node (o73 P) (.node (o137 P) .nil .nil) .nil) (.node (o105 P) .nil .nil)) (.node (o57 P) (.node (o89 P) .nil .nil) (.node (o121 P) .nil .nil)))) (.node (o13 P) (.node (o21 P) (.node (o37 P) (.node (o69 P) (.node (o133 P) .nil .nil) .nil) (.node (o101 P) .nil .nil)) (.node (o53 P) (.node (o85 P) .nil .nil) (.node (o117 P) .nil .nil))) (.node (o29 P) (.node (o45 P) (.node (o77 P) (.node (o141 P) .nil .nil) .nil) (.node (o109 P) .nil .nil)) (.node (o61 P) (.node (o93 P) .nil .nil) (.node (o125 P) .nil .nil)))))) (.node (boot_o_2 P) (.node (boot_o_4 P) (.node (boot_o_8 P) (.node (o16 P) (.node (o32 P) (.node (o64 P) (.node (o128 P) .nil .nil) .nil) (.node (o96 P) .nil .nil)) (.node (o48 P) (.node (o80 P) .nil .nil) (.node (o112 P) .nil .nil))) (.node (o24 P) (.node (o40 P) (.node (o72 P) (.node (o136 P) .nil .nil) .nil) (.node (o104 P) .nil .nil)) (.node (o56 P) (.node (o88 P) .nil .nil) (.node (o120 P) .nil .nil)))) (.node (c11 P) (.node (o20 P) (.node (o36 P) (.node (o68 P) (.node (o132 P) .nil .nil) .nil) (.node (o100 P) .nil .nil)) (.node (o52 P) (.node (o84 P) .nil .nil) (.node (o116 P) .nil .nil))) (.node (o28 P) (.node (o44 P) (.node (o76 P) (.node (o140 P) .nil .nil) .nil) (.node (o108 P) .nil .nil)) (.node (o60 P) (.node (o92 P) .nil .nil) (.node (o124 P) .nil .nil))))) (.node (boot_o_6 P) (.node (boot_o_10 P) (.node (o18 P) (.node (o34 P) (.node (o66 P) (.node (o130 P) .nil .nil) .nil) (.node (o98 P) .nil .nil)) (.node (o50 P) (.node (o82 P) .nil .nil) (.node (o114 P) .nil .nil))) (.node (o26 P) (.node (o42 P) (.node (o74 P) (.node (o138 P) .nil .nil) .nil) (.node (o106 P) .nil .nil)) (.node (o58 P) (.node (o90 P) .nil .nil) (.node (o122 P) .nil .nil)))) (.node (o14 P) (.node (o22 P) (.node (o38 P) (.node (o70 P) (.node (o134 P) .nil .nil) .nil) (.node (o102 P) .nil .nil)) (.node (o54 P) (.node (o86 P) .nil .nil) (.node (o118 P) .nil .nil))) (.node (o30 P) (.node (o46 P) (.node (o78 P) .nil .nil) (.node (o110 P) .nil .nil)) (.node (o62 P) (.node (o94 P) .nil .nil) (.node (o126 P) .nil .nil)))))))
noncomputable def s11 (w : World) (os : OsState) : SharedT := ⟨t11 w.params,142,({} : Life),⟨[]⟩,boot_drawn,2301,os⟩
noncomputable def t12 (P : Params) : BT := (.node (boot_o_0 P) (.node (boot_o_1 P) (.node (m12 P) (.node (boot_o_7 P) (.node (o15 P) (.node (o31 P) (.node (o63 P) (.node (o127 P) .nil .nil) .nil) (.node (o95 P) .nil .nil)) (.node (o47 P) (.node (o79 P) .nil .nil) (.node (o111 P) .nil .nil))) (.node (o23 P) (.node (o39 P) (.node (o71 P) (.node (o135 P) .nil .nil) .nil) (.node (o103 P) .nil .nil)) (.node (o55 P) (.node (o87 P) .nil .nil) (.node (o119 P) .nil .nil)))) (.node (o11 P) (.node (o19 P) (.node (o35 P) (.node (o67 P) (.node (o131 P) .nil .nil) .nil) (.node (o99 P) .nil .nil)) (.node (o51 P) (.node (o83 P) .nil .nil) (.node (o115 P) .nil .nil))) (.node (o27 P) (.node (o43 P) (.node (o75 P) (.node (o139 P) .nil .nil) .nil) (.node (o107 P) .nil .nil)) (.node (o59 P) (.node (o91 P) .nil .nil) (.node (o123 P) .nil .nil))))) (.node (boot_o_5 P) (.node (boot_o_9 P) (.node (o17 P) (.node (o33 P) (.node (o65 P) (.node (o129 P) .nil .nil) .nil) (.node (o97 P) .nil .nil)) (.node (o49 P) (.node (o81 P) .nil .nil) (.node (o113 P) .nil .nil))) (.node (o25 P) (.node (o41 P) (.node (o73 P) (.node (o137 P) .nil .nil) .nil) (.node (o105 P) .nil .nil)) (.node (o57 P) (.node (o89 P) .nil .nil) (.node (o121 P) .nil .nil)))) (.node (o13 P) (.node (o21 P) (.node (o37 P) (.node (o69 P) (.node (o133 P) .nil .nil) .nil) (.node (o101 P) .nil .nil)) (.node (o53 P) (.node (o85 P) .nil .nil) (.node (o117 P) .nil .nil))) (.node (o29 P) (.node (o45 P) (.node (o77 P) (.node (o141 P) .nil .nil) .nil) (.node (o109 P) .nil .nil)) (.node (o61 P) (.node (o93 P) .nil .nil) (.node (o125 P) .nil .nil)))))) (.node (boot_o_2 P) (.node (boot_o_4 P) (.node (boot_o_8 P) (.node (o16 P) (.node (o32 P) (.node (o64 P) (.node (o128 P) .nil .nil) .nil) (.node (o96 P) .nil .nil)) (.node (o48 P) (.node (o80 P) .nil .nil) (.node (o112 P) .nil .nil))) (.node (o24 P) (.node (o40 P) (.node (o72 P) (.node (o136 P) .nil .nil) .nil) (.node (o104 P) .nil .nil)) (.node (o56 P) (.node (o88 P) .nil .nil) (.node (o120 P) .nil .nil)))) (.node (c12 P) (.node (o20 P) (.node (o36 P) (.node (o68 P) (.node (o132 P) .nil .nil) .nil) (.node (o100 P) .nil .nil)) (.node (o52 P) (.node (o84 P) .nil .nil) (.node (o116 P) .nil .nil))) (.node (o28 P) (.node (o44 P) (.node (o76 P) (.node (o140 P) .nil .nil) .nil) (.node (o108 P) .nil .nil)) (.node (o60 P) (.node (o92 P) .nil .nil) (.node (o124 P) .nil .nil))))) (.node (boot_o_6 P) (.node (boot_o_10 P) (.node (o18 P) (.node (o34 P) (.node (o66 P) (.node (o130 P) .nil .nil) .nil) (.node (o98 P) .nil .nil)) (.node (o50 P) (.node (o82 P) .nil .nil) (.node (o114 P) .nil .nil))) (.node (o26 P) (.node (o42 P) (.node (o74 P) (.node (o138 P) .nil .nil) .nil) (.node (o106 P) .nil .nil)) (.node (o58 P) (.node (o90 P) .nil .nil) (.node (o122 P) .nil .nil)))) (.node (o14 P) (.node (o22 P) (.node (o38 P) (.node (o70 P) (.node (o134 P) .nil .nil) .nil) (.node (o102 P) .nil .nil)) (.node (o54 P) (.node (o86 P) .nil .nil) (.node (o118 P) .nil .nil))) (.node (o30 P) (.node (o46 P) (.node (o78 P) .nil .nil) (.node (o110 P) .nil .nil)) (.node (o62 P) (.node (o94 P) .nil .nil) (.node (o126 P) .nil .nil)))))))
noncomputable def s12 (w : World) (os : OsState) : SharedT := ⟨t12 w.params,142,({} : Life),⟨[]⟩,boot_drawn,2303,os⟩
noncomputable def t13 (P : Params) : BT := (.node (boot_o_0 P) (.node (boot_o_1 P) (.node (m13 P) (.node (boot_o_7 P) (.node (o15 P) (.node (o31 P) (.node (o63 P) (.node (o127 P) .nil .nil) .nil) (.node (o95 P) .nil .nil)) (.node (o47 P) (.node (o79 P) (.node (o143 P) .nil .nil) .nil) (.node (o111 P) .nil .nil))) (.node (o23 P) (.node (o39 P) (.node (o71 P) (.node (o135 P) .nil .nil) .nil) (.node (o103 P) .nil .nil)) (.node (o55 P) (.node (o87 P) .nil .nil) (.node (o119 P) .nil .nil)))) (.node (o11 P) (.node (o19 P) (.node (o35 P) (.node (o67 P) (.node (o131 P) .nil .nil) .nil) (.node (o99 P) .nil .nil)) (.node (o51 P) (.node (o83 P) (.node (o147 P) .nil .nil) .nil) (.node (o115 P) .nil .nil))) (.node (o27 P) (.node (o43 P) (.node (o75 P) (.node (o139 P) .nil .nil) .nil) (.node (o107 P) .nil .nil)) (.node (o59 P) (.node (o91 P) .nil .nil) (.node (o123 P) .nil .nil))))) (.node (boot_o_5 P) (.node (boot_o_9 P) (.node (o17 P) (.node (o33 P) (.node (o65 P) (.node (o129 P) .nil .nil) .nil) (.node (o97 P) .nil .nil)) (.node (o49 P) (.node (o81 P) (.node (o145 P) .nil .nil) .nil) (.node (o113 P) .nil .nil))) (.node (o25 P) (.node (o41 P) (.node (o73 P) (.node (o137 P) .nil .nil) .nil) (.node (o105 P) .nil .nil)) (.node (o57 P) (.node (o89 P) .nil .nil) (.node (o121 P) .nil .nil)))) (.node (o13 P) (.node (o21 P) (.node (o37 P) (.node (o69 P) (.node (o133 P) .nil .nil) .nil) (.node (o101 P) .nil .nil)) (.node (o53 P) (.node (o85 P) .nil .nil) (.node (o117 P) .nil .nil))) (.node (o29 P) (.node (o45 P) (.node (o77 P) (.node (o141 P) .nil .nil) .nil) (.node (o109 P) .nil .nil)) (.node (o61 P) (.node (o93 P) .nil .nil) (.node (o125 P) .nil .nil)))))) (.node (boot_o_2 P) (.node (boot_o_4 P) (.node (boot_o_8 P) (.node (o16 P) (.node (o32 P) (.node (o64 P) (.node (o128 P) .nil .nil) .nil) (.node (o96 P) .nil .nil)) (.node (o48 P) (.node (o80 P) (.node (o144 P) .nil .nil) .nil) (.node (o112 P) .nil .nil))) (.node (o24 P) (.node (o40 P) (.node (o72 P) (.node (o136 P) .nil .nil) .nil) (.node (o104 P) .nil .nil)) (.node (o56 P) (.node (o88 P) .nil .nil) (.node (o120 P) .nil .nil)))) (.node (c13 P) (.node (o20 P) (.node (o36 P) (.node (o68 P) (.node (o132 P) .nil .nil) .nil) (.node (o100 P) .nil .nil)) (.node (o52 P) (.node (o84 P) (.node (o148 P) .nil .nil) .nil) (.node (o116 P) .nil .nil))) (.node (o28 P) (.node (o44 P) (.node (o76 P) (.node (o140 P) .nil .nil) .nil) (.node (o108 P) .nil .nil)) (.node (o60 P) (.node (o92 P) .nil .nil) (.node (o124 P) .nil .nil))))) (.node (boot_o_6 P) (.node (boot_o_10 P) (.node (o18 P) (.node (o34 P) (.node (o66 P) (.node (o130 P) .nil .nil) .nil) (.node (o98 P) .nil .nil)) (.node (o50 P) (.node (o82 P) (.node (o146 P) .nil .nil) .nil) (.node (o114 P) .nil .nil))) (.node (o26 P) (.node (o42 P) (.node (o74 P) (.node (o138 P) .nil .nil) .nil) (.node (o106 P) .nil .nil)) (.node (o58 P) (.node (o90 P) .nil .nil) (.node (o122 P) .nil .nil)))) (.node (o14 P) (.node (o22 P) (.node (o38 P) (.node (o70 P) (.node (o134 P) .nil .nil) .nil) (.node (o102 P) .nil .nil)) (.node (o54 P) (.node (o86 P) .nil .nil) (.node (o118 P) .nil .nil))) (.node (o30 P) (.node (o46 P) (.node (o78 P) (.node (o142 P) .nil .nil) .nil) (.node (o110 P) .nil .nil)) (.node (o62 P) (.node (o94 P) .nil .nil) (.node (o126 P) .nil .nil)))))))
noncomputable def s13 (w : World) (os : OsState) : SharedT := ⟨t13 w.params,149,({} : Life),⟨[]⟩,boot_drawn,2312,os⟩
noncomputable def t14 (P : Params) : BT := (.node (boot_o_0 P) (.node (boot_o_1 P) (.node (m14 P) (.node (boot_o_7 P) (.node (o15 P) (.node (o31 P) (.node (o63 P) (.node (o127 P) .nil .nil) .nil) (.node (o95 P) .nil .nil)) (.node (o47 P) (.node (o79 P) (.node (o143 P) .nil .nil) .nil) (.node (o111 P) .nil .nil))) (.node (o23 P) (.node (o39 P) (.node (o71 P) (.node (o135 P) .nil .nil) .nil) (.node (o103 P) .nil .nil)) (.node (o55 P) (.node (o87 P) (.node (o151 P) .nil .nil) .nil) (.node (o119 P) .nil .nil)))) (.node (o11 P) (.node (o19 P) (.node (o35 P) (.node (o67 P) (.node (o131 P) .nil .nil) .nil) (.node (o99 P) .nil .nil)) (.node (o51 P) (.node (o83 P) (.node (o147 P) .nil .nil) .nil) (.node (o115 P) .nil .nil))) (.node (o27 P) (.node (o43 P) (.node (o75 P) (.node (o139 P) .nil .nil) .nil) (.node (o107 P) .nil .nil)) (.node (o59 P) (.node (o91 P) (.node (o155 P) .nil .nil) .nil) (.node (o123 P) .nil .nil))))) (.node (boot_o_5 P) (.node (boot_o_9 P) (.node (o17 P) (.node (o33 P) (.node (o65 P) (.node (o129 P) .nil .nil) .nil) (.node (o97 P) .nil .nil)) (.node (o49 P) (.node (o81 P) (.node (o145 P) .nil .nil) .nil) (.node (o113 P) .nil .nil))) (.node (o25 P) (.node (o41 P) (.node (o73 P) (.node (o137 P) .nil .nil) .nil) (.node (o105 P) .nil .nil)) (.node (o57 P) (.node (o89 P) (.node (o153 P) .nil .nil) .nil) (.node (o121 P) .nil .nil)))) (.node (o13 P) (.node (o21 P) (.node (o37 P) (.node (o69 P) (.node (o133 P) .nil .nil) .nil) (.node (o101 P) .nil .nil)) (.node (o53 P) (.node (o85 P) (.node (o149 P) .nil .nil) .nil) (.node (o117 P) .nil .nil))) (.node (o29 P) (.node (o45 P) (.node (o77 P) (.node (o141 P) .nil .nil) .nil) (.node (o109 P) .nil .nil)) (.node (o61 P) (.node (o93 P) .nil .nil) (.node (o125 P) .nil .nil)))))) (.node (boot_o_2 P) (.node (boot_o_4 P) (.node (boot_o_8 P) (.node (o16 P) (.node (o32 P) (.node (o64 P) (.node (o128 P) .nil .nil) .nil) (.node (o96 P) .nil .nil)) (.node (o48 P) (.node (o80 P) (.node (o144 P) .nil .nil) .nil) (.node (o112 P) .nil .nil))) (.node (o24 P) (.node (o40 P) (.node (o72 P) (.node (o136 P) .nil .nil) .nil) (.node (o104 P) .nil .nil)) (.node (o56 P) (.node (o88 P) (.node (o152 P) .nil .nil) .nil) (.node (o120 P) .nil .nil)))) (.node (c14 P) (.node (o20 P) (.node (o36 P) (.node (o68 P) (.node (o132 P) .nil .nil) .nil) (.node (o100 P) .nil .nil)) (.node (o52 P) (.node (o84 P) (.node (o148 P) .nil .nil) .nil) (.node (o116 P) .nil .nil))) (.node (o28 P) (.node (o44 P) (.node (o76 P) (.node (o140 P) .nil .nil) .nil) (.node (o108 P) .nil .nil)) (.node (o60 P) (.node (o92 P) .nil .nil) (.node (o124 P) .nil .nil))))) (.node (boot_o_6 P) (.node (boot_o_10 P) (.node (o18 P) (.node (o34 P) (.node (o66 P) (.node (o130 P) .nil .nil) .nil) (.node (o98 P) .nil .nil)) (.node (o50 P) (.node (o82 P) (.node (o146 P) .nil .nil) .nil) (.node (o114 P) .nil .nil))) (.node (o26 P) (.node (o42 P) (.node (o74 P) (.node (o138 P) .nil .nil) .nil) (.node (o106 P) .nil .nil)) (.node (o58 P) (.node (o90 P) (.node (o154 P) .nil .nil) .nil) (.node (o122 P) .nil .nil)))) (.node (o14 P) (.node (o22 P) (.node (o38 P) (.node (o70 P) (.node (o134 P) .nil .nil) .nil) (.node (o102 P) .nil .nil)) (.node (o54 P) (.node (o86 P) (.node (o150 P) .nil .nil) .nil) (.node (o118 P) .nil .nil))) (.node (o30 P) (.node (o46 P) (.node (o78 P) (.node (o142 P) .nil .nil) .nil) (.node (o110 P) .nil .nil)) (.node (o62 P) (.node (o94 P) .nil .nil) (.node (o126 P) .nil .nil)))))))
noncomputable def s14 (w : World) (os : OsState) : SharedT := ⟨t14 w.params,156,({} : Life),⟨[]⟩,boot_drawn,2319,os⟩
noncomputable def t15 (P : Params) : BT := (.node (boot_o_0 P) (.node (boot_o_1 P) (.node (m15 P) (.node (boot_o_7 P) (.node (o15 P) (.node (o31 P) (.node (o63 P) (.node (o127 P) .nil .nil) .nil) (.node (o95 P) (.node (o159 P) .nil .nil) .nil)) (.node (o47 P) (.node (o79 P) (.node (o143 P) .nil .nil) .nil) (.node (o111 P) .nil .nil))) (.node (o23 P) (.node (o39 P) (.node (o71 P) (.node (o135 P) .nil .nil) .nil) (.node (o103 P) .nil .nil)) (.node (o55 P) (.node (o87 P) (.node (o151 P) .nil .nil) .nil) (.node (o119 P) .nil .nil)))) (.node (o11 P) (.node (o19 P) (.node (o35 P) (.node (o67 P) (.node (o131 P) .nil .nil) .nil) (.node (o99 P) .nil .nil)) (.node (o51 P) (.node (o83 P) (.node (o147 P) .nil .nil) .nil) (.node (o115 P) .nil .nil))) (.node (o27 P) (.node (o43 P) (.node (o75 P) (.node (o139 P) .nil .nil) .nil) (.node (o107 P) .nil .nil)) (.node (o59 P) (.node (o91 P) (.node (o155 P) .nil .nil) .nil) (.node (o123 P) .nil .nil))))) (.node (boot_o_5 P) (.node (boot_o_9 P) (.node (o17 P) (.node (o33 P) (.node (o65 P) (.node (o129 P) .nil .nil) .nil) (.node (o97 P) (.node (o161 P) .nil .nil) .nil)) (.node (o49 P) (.node (o81 P) (.node (o145 P) .nil .nil) .nil) (.node (o113 P) .nil .nil))) (.node (o25 P) (.node (o41 P) (.node (o73 P) (.node (o137 P) .nil .nil) .nil) (.node (o105 P) .nil .nil)) (.node (o57 P) (.node (o89 P) (.node (o153 P) .nil .nil) .nil) (.node (o121 P) .nil .nil)))) (.node (o13 P) (.node (o21 P) (.node (o37 P) (.node (o69 P) (.node (o133 P) .nil .nil) .nil) (.node (o101 P) .nil .nil)) (.node (o53 P) (.node (o85 P) (.node (o149 P) .nil .nil) .nil) (.node (o117 P) .nil .nil))) (.node (o29 P) (.node (o45 P) (.node (o77 P) (.node (o141 P) .nil .nil) .nil) (.node (o109 P) .nil .nil)) (.node (o61 P) (.node (o93 P) (.node (o157 P) .nil .nil) .nil) (.node (o125 P) .nil .nil)))))) (.node (boot_o_2 P) (.node (boot_o_4 P) (.node (boot_o_8 P) (.node (o16 P) (.node (o32 P) (.node (o64 P) (.node (o128 P) .nil .nil) .nil) (.node (o96 P) (.node (o160 P) .nil .nil) .nil)) (.node (o48 P) (.node (o80 P) (.node (o144 P) .nil .nil) .nil) (.node (o112 P) .nil .nil))) (.node (o24 P) (.node (o40 P) (.node (o72 P) (.node (o136 P) .nil .nil) .nil) (.node (o104 P) .nil .nil)) (.node (o56 P) (.node (o88 P) (.node (o152 P) .nil .nil) .nil) (.node (o120 P) .nil .nil)))) (.node (c15 P) (.node (o20 P) (.node (o36 P) (.node (o68 P) (.node (o132 P) .nil .nil) .nil) (.node (o100 P) .nil .nil)) (.node (o52 P) (.node (o84 P) (.node (o148 P) .nil .nil) .nil) (.node (o116 P) .nil .nil))) (.node (o28 P) (.node (o44 P) (.node (o76 P) (.node (o140 P) .nil .nil) .nil) (.node (o108 P) .nil .nil)) (.node (o60 P) (.node (o92 P) (.node (o156 P) .nil .nil) .nil) (.node (o124 P) .nil .nil))))) (.node (boot_o_6 P) (.node (boot_o_10 P) (.node (o18 P) (.node (o34 P) (.node (o66 P) (.node (o130 P) .nil .nil) .nil) (.node (o98 P) (.node (o162 P) .nil .nil) .nil)) (.node (o50 P) (.node (o82 P) (.node (o146 P) .nil .nil) .nil) (.node (o114 P) .nil .nil))) (.node (o26 P) (.node (o42 P) (.node (o74 P) (.node (o138 P) .nil .nil) .nil) (.node (o106 P) .nil .nil)) (.node (o58 P) (.node (o90 P) (.node (o154 P) .nil .nil) .nil) (.node (o122 P) .nil .nil)))) (.node (o14 P) (.node (o22 P) (.node (o38 P) (.node (o70 P) (.node (o134 P) .nil .nil) .nil) (.node (o102 P) .nil .nil)) (.node (o54 P) (.node (o86 P) (.node (o150 P) .nil .nil) .nil) (.node (o118 P) .nil .nil))) (.node (o30 P) (.node (o46 P) (.node (o78 P) (.node (o142 P) .nil .nil) .nil) (.node (o110 P) .nil .nil)) (.node (o62 P) (.node (o94 P) (.node (o158 P) .nil .nil) .nil) (.node (o126 P) .nil .nil)))))))
noncomputable def s15 (w : World) (os : OsState) : SharedT := ⟨t15 w.params,163,({} : Life),⟨[]⟩,boot_drawn,2326,os⟩
noncomputable def t16 (P : Params) : BT := (.node (boot_o_0 P) (.node (boot_o_1 P) (.node (m16 P) (.node (boot_o_7 P) (.node (o15 P) (.node (o31 P) (.node (o63 P) (.node (o127 P) .nil .nil) .nil) (.node (o95 P) (.node (o159 P) .nil .nil) .nil)) (.node (o47 P) (.node (o79 P) (.node (o143 P) .nil .nil) .nil) (.node (o111 P) .nil .nil))) (.node (o23 P) (.node (o39 P) (.node (o71 P) (.node (o135 P) .nil .nil) .nil) (.node (o103 P) (.node (o167 P) .nil .nil) .nil)) (.node (o55 P) (.node (o87 P) (.node (o151 P) .nil .nil) .nil) (.node (o119 P) .nil .nil)))) (.node (o11 P) (.node (o19 P) (.node (o35 P) (.node (o67 P) (.node (o131 P) .nil .nil) .nil) (.node (o99 P) (.node (o163 P) .nil .nil) .nil)) (.node (o51 P) (.node (o83 P) (.node (o147 P) .nil .nil) .nil) (.node (o115 P) .nil .nil))) (.node (o27 P) (.node (o43 P) (.node (o75 P) (.node (o139 P) .nil .nil) .nil) (.node (o107 P) .nil .nil)) (.node (o59 P) (.node (o91 P) (.node (o155 P) .nil .nil) .nil) (.node (o123 P) .nil .nil))))) (.node (boot_o_5 P) (.node (boot_o_9 P) (.node (o17 P) (.node (o33 P) (.node (o65 P) (.node (o129 P) .nil .nil) .nil) (.node (o97 P) (.node (o161 P) .nil .nil) .nil)) (.node (o49 P) (.node (o81 P) (.node (o145 P) .nil .nil) .nil) (.node (o113 P) .nil .nil))) (.node (o25 P) (.node (o41 P) (.node (o73 P) (.node (o137 P) .nil .nil) .nil) (.node (o105 P) (.node (o169 P) .nil .nil) .nil)) (.node (o57 P) (.node (o89 P) (.node (o153 P) .nil .nil) .nil) (.node (o121 P) .nil .nil)))) (.node (o13 P) (.node (o21 P) (.node (o37 P) (.node (o69 P) (.node (o133 P) .nil .nil) .nil) (.node (o101 P) (.node (o165 P) .nil .nil) .nil)) (.node (o53 P) (.node (o85 P) (.node (o149 P) .nil .nil) .nil) (.node (o117 P) .nil .nil))) (.node (o29 P) (.node (o45 P) (.node (o77 P) (.node (o141 P) .nil .nil) .nil) (.node (o109 P) .nil .nil)) (.node (o61 P) (.node (o93 P) (.node (o157 P) .nil .nil) .nil) (.node (o125 P) .nil .nil)))))) (.node (boot_o_2 P) (.node (boot_o_4 P) (.node (boot_o_8 P) (.node (o16 P) (.node (o32 P) (.node (o64 P) (.node (o128 P) .nil .nil) .nil) (.node (o96 P) (.node (o160 P) .nil .nil) .nil)) (.node (o48 P) (.node (o80 P) (.node (o144 P) .nil .nil) .nil) (.node (o112 P) .nil .nil))) (.node (o24 P) (.node (o40 P) (.node (o72 P) (.node (o136 P) .nil .nil) .nil) (.node (o104 P) (.node (o168 P) .nil .nil) .nil)) (.node (o56 P) (.node (o88 P) (.node (o152 P) .nil .nil) .nil) (.node (o120 P) .nil .nil)))) (.node (c16 P) (.node (o20 P) (.node (o36 P) (.node (o68 P) (.node (o132 P) .nil .nil) .nil) (.node (o100 P) (.node (o164 P) .nil .nil) .nil)) (.node (o52 P) (.node (o84 P) (.node (o148 P) .nil .nil) .nil) (.node (o116 P) .nil .nil))) (.node (o28 P) (.node (o44 P) (.node (o76 P) (.node (o140 P) .nil .nil) .nil) (.node (o108 P) .nil .nil)) (.node (o60 P) (.node (o92 P) (.node (o156 P) .nil .nil) .nil) (.node (o124 P) .nil .nil))))) (.node (boot_o_6 P) (.node (boot_o_10 P) (.node (o18 P) (.node (o34 P) (.node (o66 P) (.node (o130 P) .nil .nil) .nil) (.node (o98 P) (.node (o162 P) .nil .nil) .nil)) (.node (o50 P) (.node (o82 P) (.node (o146 P) .nil .nil) .nil) (.node (o114 P) .nil .nil))) (.node (o26 P) (.node (o42 P) (.node (o74 P) (.node (o138 P) .nil .nil) .nil) (.node (o106 P) .nil .nil)) (.node (o58 P) (.node (o90 P) (.node (o154 P) .nil .nil) .nil) (.node (o122 P) .nil .nil)))) (.node (o14 P) (.node (o22 P) (.node (o38 P) (.node (o70 P) (.node (o134 P) .nil .nil) .nil) (.node (o102 P) (.node (o166 P) .nil .nil) .nil)) (.node (o54 P) (.node (o86 P) (.node (o150 P) .nil .nil) .nil) (.node (o118 P) .nil .nil))) (.node (o30 P) (.node (o46 P) (.node (o78 P) (.node (o142 P) .nil .nil) .nil) (.node (o110 P) .nil .nil)) (.node (o62 P) (.node (o94 P) (.node (o158 P) .nil .nil) .nil) (.node (o126 P) .nil .nil)))))))
noncomputable def s16 (w : World) (os : OsState) : SharedT := ⟨t16 w.params,170,({} : Life),⟨[]⟩,boot_drawn,2340,os⟩
noncomputable def t17 (P : Params) : BT := (.node (boot_o_0 P) (.node (boot_o_1 P) (.node (m17 P) (.node (boot_o_7 P) (.node (o15 P) (.node (o31 P) (.node (o63 P) (.node (o127 P) .nil .nil) .nil) (.node (o95 P) (.node (o159 P) .nil .nil) .nil)) (.node (o47 P) (.node (o79 P) (.node (o143 P) .nil .nil) .nil) (.node (o111 P) (.node (o175 P) .nil .nil) .nil))) (.node (o23 P) (.node (o39 P) (.node (o71 P) (.node (o135 P) .nil .nil) .nil) (.node (o103 P) (.node (o167 P) .nil .nil) .nil)) (.node (o55 P) (.node (o87 P) (.node (o151 P) .nil .nil) .nil) (.node (o119 P) .nil .nil)))) (.node (o11 P) (.node (o19 P) (.node (o35 P) (.node (o67 P) (.node (o131 P) .nil .nil) .nil) (.node (o99 P) (.node (o163 P) .nil .nil) .nil)) (.node (o51 P) (.node (o83 P) (.node (o147 P) .nil .nil) .nil) (.node (o115 P) .nil .nil))) (.node (o27 P) (.node (o43 P) (.node (o75 P) (.node (o139 P) .nil .nil) .nil) (.node (o107 P) (.node (o171 P) .nil .nil) .nil)) (.node (o59 P) (.node (o91 P) (.node (o155 P) .nil .nil) .nil) (.node (o123 P) .nil .nil))))) (.node (boot_o_5 P) (.node (boot_o_9 P) (.node (o17 P) (.node (o33 P) (.node (o65 P) (.node (o129 P) .nil .nil) .nil) (.node (o97 P) (.node (o161 P) .nil .nil) .nil)) (.node (o49 P) (.node (o81 P) (.node (o145 P) .nil .nil) .nil) (.node (o113 P) .nil .nil))) (.node (o25 P) (.node (o41 P) (.node (o73 P) (.node (o137 P) .nil .nil) .nil) (.node (o105 P) (.node (o169 P) .nil .nil) .nil)) (.node (o57 P) (.node (o89 P) (.node (o153 P) .nil .nil) .nil) (.node (o121 P) .nil .nil)))) (.node (o13 P) (.node (o21 P) (.node (o37 P) (.node (o69 P) (.node (o133 P) .nil .nil) .nil) (.node (o101 P) (.node (o165 P) .nil .nil) .nil)) (.node (o53 P) (.node (o85 P) (.node (o149 P) .nil .nil) .nil) (.node (o117 P) .nil .nil))) (.node (o29 P) (.node (o45 P) (.node (o77 P) (.node (o141 P) .nil .nil) .nil) (.node (o109 P) (.node (o173 P) .nil .nil) .nil)) (.node (o61 P) (.node (o93 P) (.node (o157 P) .nil .nil) .nil) (.node (o125 P) .nil .nil)))))) (.node (boot_o_2 P) (.node (boot_o_4 P) (.node (boot_o_8 P) (.node (o16 P) (.node (o32 P) (.node (o64 P) (.node (o128 P) .nil .nil) .nil) (.node (o96 P) (.node (o160 P) .nil .nil) .nil)) (.node (o48 P) (.node (o80 P) (.node (o144 P) .nil .nil) .nil) (.node (o112 P) (.node (o176 P) .nil .nil) .nil))) (.node (o24 P) (.node (o40 P) (.node (o72 P) (.node (o136 P) .nil .nil) .nil) (.node (o104 P) (.node (o168 P) .nil .nil) .nil)) (.node (o56 P) (.node (o88 P) (.node (o152 P) .nil .nil) .nil) (.node (o120 P) .nil .nil)))) (.node (c17 P) (.node (o20 P) (.node (o36 P) (.node (o68 P) (.node (o132 P) .nil .nil) .nil) (.node (o100 P) (.node (o164 P) .nil .nil) .nil)) (.node (o52 P) (.node (o84 P) (.node (o148 P) .nil .nil) .nil) (.node (o116 P) .nil .nil))) (.node (o28 P) (.node (o44 P) (.node (o76 P) (.node (o140 P) .nil .nil) .nil) (.node (o108 P) (.node (o172 P) .nil .nil) .nil)) (.node (o60 P) (.node (o92 P) (.node (o156 P) .nil .nil) .nil) (.node (o124 P) .nil .nil))))) (.node (boot_o_6 P) (.node (boot_o_10 P) (.node (o18 P) (.node (o34 P) (.node (o66 P) (.node (o130 P) .nil .nil) .nil) (.node (o98 P) (.node (o162 P) .nil .nil) .nil)) (.node (o50 P) (.node (o82 P) (.node (o146 P) .nil .nil) .nil) (.node (o114 P) .nil .nil))) (.node (o26 P) (.node (o42 P) (.node (o74 P) (.node (o138 P) .nil .nil) .nil) (.node (o106 P) (.node (o170 P) .nil .nil) .nil)) (.node (o58 P) (.node (o90 P) (.node (o154 P) .nil .nil) .nil) (.node (o122 P) .nil .nil)))) (.node (o14 P) (.node (o22 P) (.node (o38 P) (.node (o70 P) (.node (o134 P) .nil .nil) .nil) (.node (o102 P) (.node (o166 P) .nil .nil) .nil)) (.node (o54 P) (.node (o86 P) (.node (o150 P) .nil .nil) .nil) (.node (o118 P) .nil .nil))) (.node (o30 P) (.node (o46 P) (.node (o78 P) (.node (o142 P) .nil .nil) .nil) (.node (o110 P) (.node (o174 P) .nil .nil) .nil)) (.node (o62 P) (.node (o94 P) (.node (o158 P) .nil .nil) .nil) (.node (o126 P) .nil .nil)))))))
noncomputable def s17 (w : World) (os : OsState) : SharedT := ⟨t17 w.params,177,({} : Life),⟨[]⟩,boot_drawn,2354,os⟩
noncomputable def t18 (P : Params) : BT := (.node (boot_o_0 P) (.node (boot_o_1 P) (.node (m18 P) (.node (boot_o_7 P) (.node (o15 P) (.node (o31 P) (.node (o63 P) (.node (o127 P) .nil .nil) .nil) (.node (o95 P) (.node (o159 P) .nil .nil) .nil)) (.node (o47 P) (.node (o79 P) (.node (o143 P) .nil .nil) .nil) (.node (o111 P) (.node (o175 P) .nil .nil) .nil))) (.node (o23 P) (.node (o39 P) (.node (o71 P) (.node (o135 P) .nil .nil) .nil) (.node (o103 P) (.node (o167 P) .nil .nil) .nil)) (.node (o55 P) (.node (o87 P) (.node (o151 P) .nil .nil) .nil) (.node (o119 P) .nil .nil)))) (.node (o11 P) (.node (o19 P) (.node (o35 P) (.node (o67 P) (.node (o131 P) .nil .nil) .nil) (.node (o99 P) (.node (o163 P) .nil .nil) .nil)) (.node (o51 P) (.node (o83 P) (.node (o147 P) .nil .nil) .nil) (.node (o115 P) (.node (o179 P) .nil .nil) .nil))) (.node (o27 P) (.node (o43 P) (.node (o75 P) (.node (o139 P) .nil .nil) .nil) (.node (o107 P) (.node (o171 P) .nil .nil) .nil)) (.node (o59 P) (.node (o91 P) (.node (o155 P) .nil .nil) .nil) (.node (o123 P) .nil .nil))))) (.node (boot_o_5 P) (.node (boot_o_9 P) (.node (o17 P) (.node (o33 P) (.node (o65 P) (.node (o129 P) .nil .nil) .nil) (.node (o97 P) (.node (o161 P) .nil .nil) .nil)) (.node (o49 P) (.node (o81 P) (.node (o145 P) .nil .nil) .nil) (.node (o113 P) (.node (o177 P) .nil .nil) .nil))) (.node (o25 P) (.node (o41 P) (.node (o73 P) (.node (o137 P) .nil .nil) .nil) (.node (o105 P) (.node (o169 P) .nil .nil) .nil)) (.node (o57 P) (.node (o89 P) (.node (o153 P) .nil .nil) .nil) (.node (o121 P) .nil .nil)))) (.node (o13 P) (.node (o21 P) (.node (o37 P) (.node (o69 P) (.node (o133 P) .nil .nil) .nil) (.node (o101 P) (.node (o165 P) .nil .nil) .nil)) (.node (o53 P) (.node (o85 P) (.node (o149 P) .nil .nil) .nil) (.node (o117 P) (.node (o181 P) .nil .nil) .nil))) (.node (o29 P) (.node (o45 P) (.node (o77 P) (.node (o141 P) .nil .nil) .nil) (.node (o109 P) (.node (o173 P) .nil .nil) .nil)) (.node (o61 P) (.node (o93 P) (.node (o157 P) .nil .nil) .nil) (.node (o125 P) .nil .nil)))))) (.node (boot_o_2 P) (.node (boot_o_4 P) (.node (boot_o_8 P) (.node (o16 P) (.node (o32 P) (.node (o64 P) (.node (o128 P) .nil .nil) .nil) (.node (o96 P) (.node (o160 P) .nil .nil) .nil)) (.node (o48 P) (.node (o80 P) (.node (o144 P) .nil .nil) .nil) (.node (o112 P) (.node (o176 P) .nil .nil) .nil))) (.node (o24 P) (.node (o40 P) (.node (o72 P) (.node (o136 P) .nil .nil) .nil) (.node (o104 P) (.node (o168 P) .nil .nil) .nil)) (.node (o56 P) (.node (o88 P) (.node (o152 P) .nil .nil) .nil) (.node (o120 P) .nil .nil)))) (.node (c18 P) (.node (o20 P) (.node (o36 P) (.node (o68 P) (.node (o132 P) .nil .nil) .nil) (.node (o100 P) (.node (o164 P) .nil .nil) .nil)) (.node (o52 P) (.node (o84 P) (.node (o148 P) .nil .nil) .nil) (.node (o116 P) (.node (o180 P) .nil .nil) .nil))) (.node (o28 P) (.node (o44 P) (.node (o76 P) (.node (o140 P) .nil .nil) .nil) (.node (o108 P) (.node (o172 P) .nil .nil) .nil)) (.node (o60 P) (.node (o92 P) (.node (o156 P) .nil .nil) .nil) (.node (o124 P) .nil .nil))))) (.node (boot_o_6 P) (.node (boot_o_10 P) (.node (o18 P) (.node (o34 P) (.node (o66 P) (.node (o130 P) .nil .nil) .nil) (.node (o98 P) (.node (o162 P) .nil .nil) .nil)) (.node (o50 P) (.node (o82 P) (.node (o146 P) .nil .nil) .nil) (.node (o114 P) (.node (o178 P) .nil .nil) .nil))) (.node (o26 P) (.node (o42 P) (.node (o74 P) (.node (o138 P) .nil .nil) .nil) (.node (o106 P) (.node (o170 P) .nil .nil) .nil)) (.node (o58 P) (.node (o90 P) (.node (o154 P) .nil .nil) .nil) (.node (o122 P) .nil .nil)))) (.node (o14 P) (.node (o22 P) (.node (o38 P) (.node (o70 P) (.node (o134 P) .nil .nil) .nil) (.node (o102 P) (.node (o166 P) .nil .nil) .nil)) (.node (o54 P) (.node (o86 P) (.node (o150 P) .nil .nil) .nil) (.node (o118 P) .nil .nil))) (.node (o30 P) (.node (o46 P) (.node (o78 P) (.node (o142 P) .nil .nil) .nil) (.node (o110 P) (.node (o174 P) .nil .nil) .nil)) (.node (o62 P) (.node (o94 P) (.node (o158 P) .nil .nil) .nil) (.node (o126 P) .nil .nil)))))))
noncomputable def s18 (w : World) (os : OsState) : SharedT := ⟨t18 w.params,182,({} : Life),⟨[]⟩,boot_drawn,2360,os⟩
noncomputable def t19 (P : Params) : BT := (.node (boot_o_0 P) (.node (boot_o_1 P) (.node (m19 P) (.node (boot_o_7 P) (.node (o15 P) (.node (o31 P) (.node (o63 P) (.node (o127 P) .nil .nil) .nil) (.node (o95 P) (.node (o159 P) .nil .nil) .nil)) (.node (o47 P) (.node (o79 P) (.node (o143 P) .nil .nil) .nil) (.node (o111 P) (.node (o175 P) .nil .nil) .nil))) (.node (o23 P) (.node (o39 P) (.node (o71 P) (.node (o135 P) .nil .nil) .nil) (.node (o103 P) (.node (o167 P) .nil .nil) .nil)) (.node (o55 P) (.node (o87 P) (.node (o151 P) .nil .nil) .nil) (.node (o119 P) (.node (o183 P) .nil .nil) .nil)))) (.node (o11 P) (.node (o19 P) (.node (o35 P) (.node (o67 P) (.node (o131 P) .nil .nil) .nil) (.node (o99 P) (.node (o163 P) .nil .nil) .nil)) (.node (o51 P) (.node (o83 P) (.node (o147 P) .nil .nil) .nil) (.node (o115 P) (.node (o179 P) .nil .nil) .nil))) (.node (o27 P) (.node (o43 P) (.node (o75 P) (.node (o139 P) .nil .nil) .nil) (.node (o107 P) (.node (o171 P) .nil .nil) .nil)) (.node (o59 P) (.node (o91 P) (.node (o155 P) .nil .nil) .nil) (.node (o123 P) .nil .nil))))) (.node (boot_o_5 P) (.node (boot_o_9 P) (.node (o17 P) (.node (o33 P) (.node (o65 P) (.node (o129 P) .nil .nil) .nil) (.node (o97 P) (.node (o161 P) .nil .nil) .nil)) (.node (o49 P) (.node (o81 P) (.node (o145 P) .nil .nil) .nil) (.node (o113 P) (.node (o177 P) .nil .nil) .nil))) (.node (o25 P) (.node (o41 P) (.node (o73 P) (.node (o137 P) .nil .nil) .nil) (.node (o105 P) (.node (o169 P) .nil .nil) .nil)) (.node (o57 P) (.node (o89 P) (.node (o153 P) .nil .nil) .nil) (.node (o121 P) (.node (o185 P) .nil .nil) .nil)))) (.node (o13 P) (.node (o21 P) (.node (o37 P) (.node (o69 P) (.node (o133 P) .nil .nil) .nil) (.node (o101 P) (.node (o165 P) .nil .nil) .nil)) (.node (o53 P) (.node (o85 P) (.node (o149 P) .nil .nil) .nil) (.node (o117 P) (.node (o181 P) .nil .nil) .nil))) (.node (o29 P) (.node (o45 P) (.node (o77 P) (.node (o141 P) .nil .nil) .nil) (.node (o109 P) (.node (o173 P) .nil .nil) .nil)) (.node (o61 P) (.node (o93 P) (.node (o157 P) .nil .nil) .nil) (.node (o125 P) .nil .nil)))))) (.node (boot_o_2 P) (.node (boot_o_4 P) (.node (boot_o_8 P) (.node (o16 P) (.node (o32 P) (.node (o64 P) (.node (o128 P) .nil .nil) .nil) (.node (o96 P) (.node (o160 P) .nil .nil) .nil)) (.node (o48 P) (.node (o80 P) (.node (o144 P) .nil .nil) .nil) (.node (o112 P) (.node (o176 P) .nil .nil) .nil))) (.node (o24 P) (.node (o40 P) (.node (o72 P) (.node (o136 P) .nil .nil) .nil) (.node (o104 P) (.node (o168 P) .nil .nil) .nil)) (.node (o56 P) (.node (o88 P) (.node (o152 P) .nil .nil) .nil) (.node (o120 P) (.node (o184 P) .nil .nil) .nil)))) (.node (c19 P) (.node (o20 P) (.node (o36 P) (.node (o68 P) (.node (o132 P) .nil .nil) .nil) (.node (o100 P) (.node (o164 P) .nil .nil) .nil)) (.node (o52 P) (.node (o84 P) (.node (o148 P) .nil .nil) .nil) (.node (o116 P) (.node (o180 P) .nil .nil) .nil))) (.node (o28 P) (.node (o44 P) (.node (o76 P) (.node (o140 P) .nil .nil) .nil) (.node (o108 P) (.node (o172 P) .nil .nil) .nil)) (.node (o60 P) (.node (o92 P) (.node (o156 P) .nil .nil) .nil) (.node (o124 P) .nil .nil))))) (.node (boot_o_6 P) (.node (boot_o_10 P) (.node (o18 P) (.node (o34 P) (.node (o66 P) (.node (o130 P) .nil .nil) .nil) (.node (o98 P) (.node (o162 P) .nil .nil) .nil)) (.node (o50 P) (.node (o82 P) (.node (o146 P) .nil .nil) .nil) (.node (o114 P) (.node (o178 P) .nil .nil) .nil))) (.node (o26 P) (.node (o42 P) (.node (o74 P) (.node (o138 P) .nil .nil) .nil) (.node (o106 P) (.node (o170 P) .nil .nil) .nil)) (.node (o58 P) (.node (o90 P) (.node (o154 P) .nil .nil) .nil) (.node (o122 P) (.node (o186 P) .nil .nil) .nil)))) (.node (o14 P) (.node (o22 P) (.node (o38 P) (.node (o70 P) (.node (o134 P) .nil .nil) .nil) (.node (o102 P) (.node (o166 P) .nil .nil) .nil)) (.node (o54 P) (.node (o86 P) (.node (o150 P) .nil .nil) .nil) (.node (o118 P) (.node (o182 P) .nil .nil) .nil))) (.node (o30 P) (.node (o46 P) (.node (o78 P) (.node (o142 P) .nil .nil) .nil) (.node (o110 P) (.node (o174 P) .nil .nil) .nil)) (.node (o62 P) (.node (o94 P) (.node (o158 P) .nil .nil) .nil) (.node (o126 P) .nil .nil)))))))
noncomputable def s19 (w : World) (os : OsState) : SharedT := ⟨t19 w.params,187,({} : Life),⟨[]⟩,boot_drawn,2366,os⟩
noncomputable def t20 (P : Params) : BT := (.node (boot_o_0 P) (.node (boot_o_1 P) (.node (m20 P) (.node (boot_o_7 P) (.node (o15 P) (.node (o31 P) (.node (o63 P) (.node (o127 P) .nil .nil) (.node (o191 P) .nil .nil)) (.node (o95 P) (.node (o159 P) .nil .nil) .nil)) (.node (o47 P) (.node (o79 P) (.node (o143 P) .nil .nil) .nil) (.node (o111 P) (.node (o175 P) .nil .nil) .nil))) (.node (o23 P) (.node (o39 P) (.node (o71 P) (.node (o135 P) .nil .nil) .nil) (.node (o103 P) (.node (o167 P) .nil .nil) .nil)) (.node (o55 P) (.node (o87 P) (.node (o151 P) .nil .nil) .nil) (.node (o119 P) (.node (o183 P) .nil .nil) .nil)))) (.node (o11 P) (.node (o19 P) (.node (o35 P) (.node (o67 P) (.node (o131 P) .nil .nil) .nil) (.node (o99 P) (.node (o163 P) .nil .nil) .nil)) (.node (o51 P) (.node (o83 P) (.node (o147 P) .nil .nil) .nil) (.node (o115 P) (.node (o179 P) .nil .nil) .nil))) (.node (o27 P) (.node (o43 P) (.node (o75 P) (.node (o139 P) .nil .nil) .nil) (.node (o107 P) (.node (o171 P) .nil .nil) .nil)) (.node (o59 P) (.node (o91 P) (.node (o155 P) .nil .nil) .nil) (.node (o123 P) (.node (o187 P) .nil .nil) .nil))))) (.node (boot_o_5 P) (.node (boot_o_9 P) (.node (o17 P) (.node (o33 P) (.node (o65 P) (.node (o129 P) .nil .nil) .nil) (.node (o97 P) (.node (o161 P) .nil .nil) .nil)) (.node (o49 P) (.node (o81 P) (.node (o145 P) .nil .nil) .nil) (.node (o113 P) (.node (o177 P) .nil .nil) .nil))) (.node (o25 P) (.node (o41 P) (.node (o73 P) (.node (o137 P) .nil .nil) .nil) (.node (o105 P) (.node (o169 P) .nil .nil) .nil)) (.node (o57 P) (.node (o89 P) (.node (o153 P) .nil .nil) .nil) (.node (o121 P) (.node (o185 P) .nil .nil) .nil)))) (.node (o13 P) (.node (o21 P) (.node (o37 P) (.node (o69 P) (.node (o133 P) .nil .nil) .nil) (.node (o101 P) (.node (o165 P) .nil .nil) .nil)) (.node (o53 P) (.node (o85 P) (.node (o149 P) .nil .nil) .nil) (.node (o117 P) (.node (o181 P) .nil .nil) .nil))) (.node (o29 P) (.node (o45 P) (.node (o77 P) (.node (o141 P) .nil .nil) .nil) (.node (o109 P) (.node (o173 P) .nil .nil) .nil)) (.node (o61 P) (.node (o93 P) (.node (o157 P) .nil .nil) .nil) (.node (o125 P) (.node (o189 P) .nil .nil) .nil)))))) (.node (boot_o_2 P) (.node (boot_o_4 P) (.node (boot_o_8 P) (.node (o16 P) (.node (o32 P) (.node (o64 P) (.node (o128 P) .nil .nil) .nil) (.node (o96 P) (.node (o160 P) .nil .nil) .nil)) (.node (o48 P) (.node (o80 P) (.node (o144 P) .nil .nil) .nil) (.node (o112 P) (.node (o176 P) .nil .nil) .nil))) (.node (o24 P) (.node (o40 P) (.node (o72 P) (.node (o136 P) .nil .nil) .nil) (.node (o104 P) (.node (o168 P) .nil .nil) .nil)) (.node (o56 P) (.node (o88 P) (.node (o152 P) .nil .nil) .nil) (.node (o120 P) (.node (o184 P) .nil .nil) .nil)))) (.node (c20 P) (.node (o20 P) (.node (o36 P) (.node (o68 P) (.node (o132 P) .nil .nil) .nil) (.node (o100 P) (.node (o164 P) .nil .nil) .nil)) (.node (o52 P) (.node (o84 P) (.node (o148 P) .nil .nil) .nil) (.node (o116 P) (.node (o180 P) .nil .nil) .nil))) (.node (o28 P) (.node (o44 P) (.node (o76 P) (.node (o140 P) .nil .nil) .nil) (.node (o108 P) (.node (o172 P) .nil .nil) .nil)) (.node (o60 P) (.node (o92 P) (.node (o156 P) .nil .nil) .nil) (.node (o124 P) (.node (o188 P) .nil .nil) .nil))))) (.node (boot_o_6 P) (.node (boot_o_10 P) (.node (o18 P) (.node (o34 P) (.node (o66 P) (.node (o130 P) .nil .nil) .nil) (.node (o98 P) (.node (o162 P) .nil .nil) .nil)) (.node (o50 P) (.node (o82 P) (.node (o146 P) .nil .nil) .nil) (.node (o114 P) (.node (o178 P) .nil .nil) .nil))) (.node (o26 P) (.node (o42 P) (.node (o74 P) (.node (o138 P) .nil .nil) .nil) (.node (o106 P) (.node (o170 P) .nil .nil) .nil)) (.node (o58 P) (.node (o90 P) (.node (o154 P) .nil .nil) .nil) (.node (o122 P) (.node (o186 P) .nil .nil) .nil)))) (.node (o14 P) (.node (o22 P) (.node (o38 P) (.node (o70 P) (.node (o134 P) .nil .nil) .nil) (.node (o102 P) (.node (o166 P) .nil .nil) .nil)) (.node (o54 P) (.node (o86 P) (.node (o150 P) .nil .nil) .nil) (.node (o118 P) (.node (o182 P) .nil .nil) .nil))) (.node (o30 P) (.node (o46 P) (.node (o78 P) (.node (o142 P) .nil .nil) .nil) (.node (o110 P) (.node (o174 P) .nil .nil) .nil)) (.node (o62 P) (.node (o94 P) (.node (o158 P) .nil .nil) .nil) (.node (o126 P) (.node (o190 P) .nil .nil) .nil)))))))
noncomputable def s20 (w : World) (os : OsState) : SharedT := ⟨t20 w.params,192,({} : Life),⟨[]⟩,boot_drawn,2372,os⟩
noncomputable def K (P : Params) : Frag :=
  (nat_lit 2,⟨.none,none,(.dict ⟨[]⟩ 0),⟨[]⟩⟩) ::
  (nat_lit 3,⟨(.type "dict"),none,(.dict ⟨[⟨PyData.keyHash P (Str.ofString "__name__"),(.str (Str.ofString "__name__") 165),(.str (Str.ofString "law_to0035_01") 2301)⟩,⟨PyData.keyHash P (Str.ofString "__doc__"),(.str (Str.ofString "__doc__") 166),.none⟩,⟨PyData.keyHash P (Str.ofString "__package__"),(.str (Str.ofString "__package__") 167),.none⟩,⟨PyData.keyHash P (Str.ofString "__loader__"),(.str (Str.ofString "__loader__") 168),(.builtin "__main__.__loader__#opaque")⟩,⟨PyData.keyHash P (Str.ofString "__spec__"),(.str (Str.ofString "__spec__") 169),.none⟩,⟨PyData.keyHash P (Str.ofString "__annotations__"),(.str (Str.ofString "__annotations__") 170),(.ref 6)⟩,⟨PyData.keyHash P (Str.ofString "__builtins__"),(.str (Str.ofString "__builtins__") 171),(.ref 4)⟩,⟨PyData.keyHash P (Str.ofString "__file__"),(.str (Str.ofString "__file__") 173),(.str (Str.ofString "/claim/cut.py") 172)⟩,⟨PyData.keyHash P (Str.ofString "__cached__"),(.str (Str.ofString "__cached__") 174),.none⟩,⟨PyData.keyHash P (Str.ofString "_netrclex"),(.str (Str.ofString "_netrclex") 246),(.ref 52)⟩,⟨PyData.keyHash P (Str.ofString "lt"),(.str (Str.ofString "lt") 256),(.ref 63)⟩,⟨PyData.keyHash P (Str.ofString "add"),(.str (Str.ofString "add") 264),(.ref 70)⟩,⟨PyData.keyHash P (Str.ofString "sub"),(.str (Str.ofString "sub") 272),(.ref 77)⟩,⟨PyData.keyHash P (Str.ofString "b1_set"),(.str (Str.ofString "b1_set") 334),(.ref 85)⟩,⟨PyData.keyHash P (Str.ofString "in_table_b1"),(.str (Str.ofString "in_table_b1") 341),(.ref 95)⟩,⟨PyData.keyHash P (Str.ofString "b3_exceptions"),(.str (Str.ofString "b3_exceptions") 2292),(.ref 96)⟩,⟨PyData.keyHash P (Str.ofString "map_table_b3"),(.str (Str.ofString "map_table_b3") 2300),(.ref 141)⟩,⟨PyData.keyHash P (Str.ofString "_law_lexer"),(.str (Str.ofString "_law_lexer") 2311),(.ref 148)⟩,⟨PyData.keyHash P (Str.ofString "_law_hidden"),(.str (Str.ofString "_law_hidden") 2318),(.ref 155)⟩,⟨PyData.keyHash P (Str.ofString "_law_beside"),(.str (Str.ofString "_law_beside") 2325),(.ref 162)⟩,⟨PyData.keyHash P (Str.ofString "_law_piece"),(.str (Str.ofString "_law_piece") 2339),(.ref 169)⟩,⟨PyData.keyHash P (Str.ofString "_law_text"),(.str (Str.ofString "_law_text") 2353),(.ref 176)⟩,⟨PyData.keyHash P (Str.ofString "_law_prepared"),(.str (Str.ofString "_law_prepared") 2359),(.ref 181)⟩,⟨PyData.keyHash P (Str.ofString "_law_last_part"),(.str (Str.ofString "_law_last_part") 2365),(.ref 186)⟩,⟨PyData.keyHash P (Str.ofString "law"),(.str (Str.ofString "law") 2371),(.ref 191)⟩]⟩ 25),⟨[]⟩⟩) ::
  (nat_lit 4,⟨(.type "module"),(some 0),.plain,⟨[]⟩⟩) ::
  (nat_lit 5,⟨(.type "module"),(some 3),.plain,⟨[]⟩⟩) ::
  (nat_lit 6,⟨(.type "dict"),none,(.dict ⟨[]⟩ 0),⟨[]⟩⟩) ::
  (nat_lit 7,⟨(.type "tuple"),none,(.seq ⟨[]⟩ 0),⟨[]⟩⟩) ::
  (nat_lit 9,⟨(.type "code"),none,(.fields ⟨[(.str (Str.ofString "<module>") 176),(.str (Str.ofString "<module>") 177),(.str (Str.ofString "/claim/cut.py") 178),(.int (.ofNat 1) 0),(.int (.ofNat 0) 0),(.int (.ofNat 0) 0),(.int (.ofNat 0) 0),(.int (.ofNat 0) 0),(.ref 7),(.bool false),(.int (.ofNat 175) 0),(.ref 8),.none,.none,.none,.none,(.int (.ofNat 179) 0),(.int (.ofNat 1) 0),(.str (Str.ofString "/claim/cut.py") 180)]⟩),⟨[]⟩⟩) ::
  (nat_lit 10,⟨(.type "frame"),none,.plain,⟨[(some (.ref 9)),(some (.ref 3)),(some (.ref 3)),none,(some (.str (Str.ofString "__main__") 164)),none,(some (.ref 0))]⟩⟩) ::
  (nat_lit 11,⟨(.type "tuple"),none,(.seq ⟨[]⟩ 0),⟨[]⟩⟩) ::
  (nat_lit 13,⟨(.type "code"),none,(.fields ⟨[(.str (Str.ofString "<module>") 182),(.str (Str.ofString "<module>") 183),(.str (Str.ofString "/claim/cut.py") 184),(.int (.ofNat 1) 0),(.int (.ofNat 0) 0),(.int (.ofNat 0) 0),(.int (.ofNat 0) 0),(.int (.ofNat 0) 0),(.ref 11),(.bool false),(.int (.ofNat 181) 0),(.ref 12),.none,.none,.none,.none,(.int (.ofNat 185) 0),(.int (.ofNat 1) 0),(.str (Str.ofString "/claim/cut.py") 186)]⟩),⟨[]⟩⟩) ::
  (nat_lit 14,⟨(.type "frame"),none,.plain,⟨[(some (.ref 13)),(some (.ref 3)),(some (.ref 3)),none,(some (.str (Str.ofString "__main__") 164)),none,(some (.ref 0))]⟩⟩) ::
  (nat_lit 15,⟨(.type "tuple"),none,(.seq ⟨[]⟩ 0),⟨[]⟩⟩) ::
  (nat_lit 16,⟨(.type "builtin_function_or_method"),none,(.fields ⟨[(.builtin "type.__prepare__"),(.type "type")]⟩),⟨[]⟩⟩) ::
  (nat_lit 17,⟨(.type "dict"),none,(.dict ⟨[⟨PyData.keyHash P (Str.ofString "__module__"),(.str (Str.ofString "__module__") 196),(.str (Str.ofString "cpy313.netrc") 187)⟩,⟨PyData.keyHash P (Str.ofString "__qualname__"),(.str (Str.ofString "__qualname__") 198),(.str (Str.ofString "_netrclex") 197)⟩,⟨PyData.keyHash P (Str.ofString "__firstlineno__"),(.str (Str.ofString "__firstlineno__") 200),(.int (.ofNat 2) 199)⟩,⟨PyData.keyHash P (Str.ofString "__init__"),(.str (Str.ofString "__init__") 208),(.ref 28)⟩,⟨PyData.keyHash P (Str.ofString "_read_char"),(.str (Str.ofString "_read_char") 216),(.ref 35)⟩,⟨PyData.keyHash P (Str.ofString "get_token"),(.str (Str.ofString "get_token") 226),(.ref 42)⟩,⟨PyData.keyHash P (Str.ofString "push_token"),(.str (Str.ofString "push_token") 234),(.ref 49)⟩,⟨PyData.keyHash P (Str.ofString "__static_attributes__"),(.str (Str.ofString "__static_attributes__") 239),(.ref 50)⟩]⟩ 8),⟨[]⟩⟩) ::
  (nat_lit 18,⟨(.type "tuple"),none,(.seq ⟨[]⟩ 0),⟨[]⟩⟩) ::
  (nat_lit 20,⟨(.type "code"),none,(.fields ⟨[(.str (Str.ofString "_netrclex") 191),(.str (Str.ofString "_netrclex") 192),(.str (Str.ofString "/claim/cut.py") 193),(.int (.ofNat 2) 0),(.int (.ofNat 0) 0),(.int (.ofNat 0) 0),(.int (.ofNat 0) 0),(.int (.ofNat 0) 0),(.ref 18),(.bool false),(.int (.ofNat 181) 0),(.ref 19),.none,.none,.none,.none,(.int (.ofNat 194) 0),(.int (.ofNat 2) 0),(.str (Str.ofString "/claim/cut.py") 195)]⟩),⟨[]⟩⟩) ::
  (nat_lit 21,⟨(.type "frame"),none,.plain,⟨[(some (.ref 20)),(some (.ref 3)),(some (.ref 17)),none,(some (.str (Str.ofString "cpy313.netrc") 187)),none,(some (.ref 0))]⟩⟩) ::
  (nat_lit 22,⟨(.type "tuple"),none,(.seq ⟨[]⟩ 0),⟨[]⟩⟩) ::
  (nat_lit 24,⟨(.type "tuple"),none,(.seq ⟨[(.str (Str.ofString "self") 204),(.str (Str.ofString "fp") 205)]⟩ 0),⟨[]⟩⟩) ::
  (nat_lit 25,⟨(.type "tuple"),none,(.seq ⟨[]⟩ 0),⟨[]⟩⟩) ::
  (nat_lit 27,⟨(.type "code"),none,(.fields ⟨[(.str (Str.ofString "__init__") 201),(.str (Str.ofString "_netrclex.__init__") 202),(.str (Str.ofString "/claim/cut.py") 203),(.int (.ofNat 4) 0),(.int (.ofNat 2) 0),(.int (.ofNat 0) 0),(.int (.ofNat 0) 0),(.int (.ofNat 3) 0),(.ref 22),(.bool true),(.int (.ofNat 181) 0),(.ref 23),.none,(.ref 24),(.ref 25),(.ref 26),(.int (.ofNat 206) 0),(.int (.ofNat 4) 0),(.str (Str.ofString "/claim/cut.py") 207)]⟩),⟨[]⟩⟩) ::
  (nat_lit 28,⟨(.type "function"),none,(.func ⟨(Str.ofString "__init__"),(Str.ofString "_netrclex.__init__"),parInit,.stmts bodInit,scoInit,3,[],.none,.none,.none,(.str (Str.ofString "cpy313.netrc") 187),none,(.ref 27),.none,0⟩),⟨[]⟩⟩) ::
  (nat_lit 29,⟨(.type "tuple"),none,(.seq ⟨[]⟩ 0),⟨[]⟩⟩) ::
  (nat_lit 31,⟨(.type "tuple"),none,(.seq ⟨[(.str (Str.ofString "self") 212),(.str (Str.ofString "ch") 213)]⟩ 0),⟨[]⟩⟩) ::
  (nat_lit 32,⟨(.type "tuple"),none,(.seq ⟨[]⟩ 0),⟨[]⟩⟩) ::
  (nat_lit 34,⟨(.type "code"),none,(.fields ⟨[(.str (Str.ofString "_read_char") 209),(.str (Str.ofString "_netrclex._read_char") 210),(.str (Str.ofString "/claim/cut.py") 211),(.int (.ofNat 10) 0),(.int (.ofNat 1) 0),(.int (.ofNat 0) 0),(.int (.ofNat 0) 0),(.int (.ofNat 3) 0),(.ref 29),(.bool true),(.int (.ofNat 181) 0),(.ref 30),.none,(.ref 31),(.ref 32),(.ref 33),(.int (.ofNat 214) 0),(.int (.ofNat 10) 0),(.str (Str.ofString "/claim/cut.py") 215)]⟩),⟨[]⟩⟩) ::
  (nat_lit 35,⟨(.type "function"),none,(.func ⟨(Str.ofString "_read_char"),(Str.ofString "_netrclex._read_char"),parRead,.stmts bodRead,scoRead,3,[],.none,.none,.none,(.str (Str.ofString "cpy313.netrc") 187),none,(.ref 34),.none,0⟩),⟨[]⟩⟩) ::
  (nat_lit 36,⟨(.type "tuple"),none,(.seq ⟨[]⟩ 0),⟨[]⟩⟩) ::
  (nat_lit 38,⟨(.type "tuple"),none,(.seq ⟨[(.str (Str.ofString "self") 220),(.str (Str.ofString "token") 221),(.str (Str.ofString "fiter") 222),(.str (Str.ofString "ch") 223)]⟩ 0),⟨[]⟩⟩) ::
  (nat_lit 39,⟨(.type "tuple"),none,(.seq ⟨[]⟩ 0),⟨[]⟩⟩) ::
  (nat_lit 41,⟨(.type "code"),none,(.fields ⟨[(.str (Str.ofString "get_token") 217),(.str (Str.ofString "_netrclex.get_token") 218),(.str (Str.ofString "/claim/cut.py") 219),(.int (.ofNat 16) 0),(.int (.ofNat 1) 0),(.int (.ofNat 0) 0),(.int (.ofNat 0) 0),(.int (.ofNat 3) 0),(.ref 36),(.bool true),(.int (.ofNat 181) 0),(.ref 37),.none,(.ref 38),(.ref 39),(.ref 40),(.int (.ofNat 224) 0),(.int (.ofNat 16) 0),(.str (Str.ofString "/claim/cut.py") 225)]⟩),⟨[]⟩⟩) ::
  (nat_lit 42,⟨(.type "function"),none,(.func ⟨(Str.ofString "get_token"),(Str.ofString "_netrclex.get_token"),parGet,.stmts bodGet,scoGet,3,[],.none,.none,.none,(.str (Str.ofString "cpy313.netrc") 187),none,(.ref 41),.none,0⟩),⟨[]⟩⟩) ::
  (nat_lit 43,⟨(.type "tuple"),none,(.seq ⟨[]⟩ 0),⟨[]⟩⟩) ::
  (nat_lit 45,⟨(.type "tuple"),none,(.seq ⟨[(.str (Str.ofString "self") 230),(.str (Str.ofString "token") 231)]⟩ 0),⟨[]⟩⟩) ::
  (nat_lit 46,⟨(.type "tuple"),none,(.seq ⟨[]⟩ 0),⟨[]⟩⟩) ::
  (nat_lit 48,⟨(.type "code"),none,(.fields ⟨[(.str (Str.ofString "push_token") 227),(.str (Str.ofString "_netrclex.push_token") 228),(.str (Str.ofString "/claim/cut.py") 229),(.int (.ofNat 43) 0),(.int (.ofNat 2) 0),(.int (.ofNat 0) 0),(.int (.ofNat 0) 0),(.int (.ofNat 3) 0),(.ref 43),(.bool true),(.int (.ofNat 181) 0),(.ref 44),.none,(.ref 45),(.ref 46),(.ref 47),(.int (.ofNat 232) 0),(.int (.ofNat 43) 0),(.str (Str.ofString "/claim/cut.py") 233)]⟩),⟨[]⟩⟩) ::
  (nat_lit 49,⟨(.type "function"),none,(.func ⟨(Str.ofString "push_token"),(Str.ofString "_netrclex.push_token"),parPush,.stmts bodPush,scoPush,3,[],.none,.none,.none,(.str (Str.ofString "cpy313.netrc") 187),none,(.ref 48),.none,0⟩),⟨[]⟩⟩) ::
  (nat_lit 50,⟨(.type "tuple"),none,(.seq ⟨[(.str (Str.ofString "instream") 235),(.str (Str.ofString "lineno") 236),(.str (Str.ofString "pushback") 237),(.str (Str.ofString "whitespace") 238)]⟩ 0),⟨[]⟩⟩) ::
  (nat_lit 51,⟨(.type "dict"),none,(.dict ⟨[⟨PyData.keyHash P (Str.ofString "__module__"),(.str (Str.ofString "__module__") 196),(.str (Str.ofString "cpy313.netrc") 187)⟩,⟨PyData.keyHash P (Str.ofString "__firstlineno__"),(.str (Str.ofString "__firstlineno__") 200),(.int (.ofNat 2) 199)⟩,⟨PyData.keyHash P (Str.ofString "__init__"),(.str (Str.ofString "__init__") 208),(.ref 28)⟩,⟨PyData.keyHash P (Str.ofString "_read_char"),(.str (Str.ofString "_read_char") 216),(.ref 35)⟩,⟨PyData.keyHash P (Str.ofString "get_token"),(.str (Str.ofString "get_token") 226),(.ref 42)⟩,⟨PyData.keyHash P (Str.ofString "push_token"),(.str (Str.ofString "push_token") 234),(.ref 49)⟩,⟨PyData.keyHash P (Str.ofString "__static_attributes__"),(.str (Str.ofString "__static_attributes__") 239),(.ref 50)⟩,⟨PyData.keyHash P (Str.ofString "__dict__"),(.str (Str.ofString "__dict__") 241),(.ref 53)⟩,⟨PyData.keyHash P (Str.ofString "__weakref__"),(.str (Str.ofString "__weakref__") 243),(.ref 54)⟩,⟨PyData.keyHash P (Str.ofString "__doc__"),(.str (Str.ofString "__doc__") 244),.none⟩]⟩ 4),⟨[]⟩⟩) ::
  (nat_lit 52,⟨(.type "type"),none,(.cls ⟨(Str.ofString "_netrclex"),[(.type "object")],[(.ref 52),(.type "object")],51,(Str.ofString "_netrclex"),true,[],[],false,none,false⟩),⟨[none,none,(some (.str (Str.ofString "_netrclex") 189)),(some (.str (Str.ofString "_netrclex") 197)),(some (.builtin "object.__new__")),(some (.bool true))]⟩⟩) ::
  (nat_lit 53,⟨(.type "getset_descriptor"),none,(.fields ⟨[(.str (Str.ofString "__dict__") 240),(.ref 52),(.builtin "function.__dict__"),(.builtin "function.__dict__#set")]⟩),⟨[]⟩⟩) ::
  (nat_lit 54,⟨(.type "getset_descriptor"),none,(.fields ⟨[(.str (Str.ofString "__weakref__") 242),(.ref 52),(.builtin "ExceptionGroup.__weakref__"),.none]⟩),⟨[]⟩⟩) ::
  (nat_lit 55,⟨(.type "super"),none,(.fields ⟨[(.ref 52),(.ref 52),(.ref 52)]⟩),⟨[]⟩⟩) ::
  (nat_lit 56,⟨(.type "builtin_function_or_method"),none,(.fields ⟨[(.builtin "object.__init_subclass__"),(.ref 52)]⟩),⟨[]⟩⟩) ::
  (nat_lit 57,⟨(.type "tuple"),none,(.seq ⟨[]⟩ 0),⟨[]⟩⟩) ::
  (nat_lit 59,⟨(.type "tuple"),none,(.seq ⟨[(.str (Str.ofString "a") 252),(.str (Str.ofString "b") 253)]⟩ 0),⟨[]⟩⟩) ::
  (nat_lit 60,⟨(.type "tuple"),none,(.seq ⟨[]⟩ 0),⟨[]⟩⟩) ::
  (nat_lit 62,⟨(.type "code"),none,(.fields ⟨[(.str (Str.ofString "lt") 249),(.str (Str.ofString "lt") 250),(.str (Str.ofString "/claim/cut.py") 251),(.int (.ofNat 46) 0),(.int (.ofNat 2) 0),(.int (.ofNat 0) 0),(.int (.ofNat 0) 0),(.int (.ofNat 3) 0),(.ref 57),(.bool true),(.int (.ofNat 181) 0),(.ref 58),.none,(.ref 59),(.ref 60),(.ref 61),(.int (.ofNat 254) 0),(.int (.ofNat 46) 0),(.str (Str.ofString "/claim/cut.py") 255)]⟩),⟨[]⟩⟩) ::
  (nat_lit 63,⟨(.type "function"),none,(.func ⟨(Str.ofString "lt"),(Str.ofString "lt"),parLt,.stmts bodLt,scoLt,3,[],.none,.none,.none,(.str (Str.ofString "cpy313.operator") 247),none,(.ref 62),.none,0⟩),⟨[]⟩⟩) ::
  (nat_lit 64,⟨(.type "tuple"),none,(.seq ⟨[]⟩ 0),⟨[]⟩⟩) ::
  (nat_lit 66,⟨(.type "tuple"),none,(.seq ⟨[(.str (Str.ofString "a") 260),(.str (Str.ofString "b") 261)]⟩ 0),⟨[]⟩⟩) ::
  (nat_lit 67,⟨(.type "tuple"),none,(.seq ⟨[]⟩ 0),⟨[]⟩⟩) ::
  (nat_lit 69,⟨(.type "code"),none,(.fields ⟨[(.str (Str.ofString "add") 257),(.str (Str.ofString "add") 258),(.str (Str.ofString "/claim/cut.py") 259),(.int (.ofNat 48) 0),(.int (.ofNat 2) 0),(.int (.ofNat 0) 0),(.int (.ofNat 0) 0),(.int (.ofNat 3) 0),(.ref 64),(.bool true),(.int (.ofNat 181) 0),(.ref 65),.none,(.ref 66),(.ref 67),(.ref 68),(.int (.ofNat 262) 0),(.int (.ofNat 48) 0),(.str (Str.ofString "/claim/cut.py") 263)]⟩),⟨[]⟩⟩) ::
  (nat_lit 70,⟨(.type "function"),none,(.func ⟨(Str.ofString "add"),(Str.ofString "add"),parAdd,.stmts bodAdd,scoAdd,3,[],.none,.none,.none,(.str (Str.ofString "cpy313.operator") 247),none,(.ref 69),.none,0⟩),⟨[]⟩⟩) ::
  (nat_lit 71,⟨(.type "tuple"),none,(.seq ⟨[]⟩ 0),⟨[]⟩⟩) ::
  (nat_lit 73,⟨(.type "tuple"),none,(.seq ⟨[(.str (Str.ofString "a") 268),(.str (Str.ofString "b") 269)]⟩ 0),⟨[]⟩⟩) ::
  (nat_lit 74,⟨(.type "tuple"),none,(.seq ⟨[]⟩ 0),⟨[]⟩⟩) ::
  (nat_lit 76,⟨(.type "code"),none,(.fields ⟨[(.str (Str.ofString "sub") 265),(.str (Str.ofString "sub") 266),(.str (Str.ofString "/claim/cut.py") 267),(.int (.ofNat 50) 0),(.int (.ofNat 2) 0),(.int (.ofNat 0) 0),(.int (.ofNat 0) 0),(.int (.ofNat 3) 0),(.ref 71),(.bool true),(.int (.ofNat 181) 0),(.ref 72),.none,(.ref 73),(.ref 74),(.ref 75),(.int (.ofNat 270) 0),(.int (.ofNat 50) 0),(.str (Str.ofString "/claim/cut.py") 271)]⟩),⟨[]⟩⟩) ::
  (nat_lit 77,⟨(.type "function"),none,(.func ⟨(Str.ofString "sub"),(Str.ofString "sub"),parSub,.stmts bodSub,scoSub,3,[],.none,.none,.none,(.str (Str.ofString "cpy313.operator") 247),none,(.ref 76),.none,0⟩),⟨[]⟩⟩) ::
  (nat_lit 78,⟨(.type "list"),none,(.seq ⟨[(.int (.ofNat 173) 275),(.int (.ofNat 847) 276),(.int (.ofNat 6150) 277),(.int (.ofNat 6155) 278),(.int (.ofNat 6156) 279),(.int (.ofNat 6157) 280),(.int (.ofNat 8203) 281),(.int (.ofNat 8204) 282),(.int (.ofNat 8205) 283),(.int (.ofNat 8288) 284),(.int (.ofNat 65279) 285)]⟩ 0),⟨[]⟩⟩) ::
  (nat_lit 79,⟨(.type "range"),none,(.fields ⟨[(.int (.ofNat 65024) 286),(.int (.ofNat 65040) 287),(.int (.ofNat 1) 288)]⟩),⟨[]⟩⟩) ::
  (nat_lit 80,⟨(.type "list"),none,(.seq ⟨[(.int (.ofNat 65024) 291),(.int (.ofNat 65025) 292),(.int (.ofNat 65026) 293),(.int (.ofNat 65027) 294),(.int (.ofNat 65028) 295),(.int (.ofNat 65029) 296),(.int (.ofNat 65030) 297),(.int (.ofNat 65031) 298),(.int (.ofNat 65032) 299),(.int (.ofNat 65033) 300),(.int (.ofNat 65034) 301),(.int (.ofNat 65035) 302),(.int (.ofNat 65036) 303),(.int (.ofNat 65037) 304),(.int (.ofNat 65038) 305),(.int (.ofNat 65039) 306)]⟩ 18),⟨[]⟩⟩) ::
  (nat_lit 81,⟨(.type "range_iterator"),none,(.fields ⟨[(.int (.ofNat 65040) 0),(.int (.ofNat 0) 0),(.int (.ofNat 1) 0)]⟩),⟨[]⟩⟩) ::
  (nat_lit 82,⟨(.type "tuple"),none,(.seq ⟨[]⟩ 0),⟨[]⟩⟩) ::
  (nat_lit 83,⟨(.type "StopIteration"),none,(.fields ⟨[(.ref 82),.none,.none,.none,(.bool false),.none]⟩),⟨[]⟩⟩) ::
  (nat_lit 84,⟨(.type "list"),none,(.seq ⟨[(.int (.ofNat 173) 275),(.int (.ofNat 847) 276),(.int (.ofNat 6150) 277),(.int (.ofNat 6155) 278),(.int (.ofNat 6156) 279),(.int (.ofNat 6157) 280),(.int (.ofNat 8203) 281),(.int (.ofNat 8204) 282),(.int (.ofNat 8205) 283),(.int (.ofNat 8288) 284),(.int (.ofNat 65279) 285),(.int (.ofNat 65024) 291),(.int (.ofNat 65025) 292),(.int (.ofNat 65026) 293),(.int (.ofNat 65027) 294),(.int (.ofNat 65028) 295),(.int (.ofNat 65029) 296),(.int (.ofNat 65030) 297),(.int (.ofNat 65031) 298),(.int (.ofNat 65032) 299),(.int (.ofNat 65033) 300),(.int (.ofNat 65034) 301),(.int (.ofNat 65035) 302),(.int (.ofNat 65036) 303),(.int (.ofNat 65037) 304),(.int (.ofNat 65038) 305),(.int (.ofNat 65039) 306)]⟩ 0),⟨[]⟩⟩) ::
  (nat_lit 85,⟨(.type "set"),none,(.set ⟨[((.ofNat 65024),(.int (.ofNat 65024) 291)),((.ofNat 65025),(.int (.ofNat 65025) 292)),((.ofNat 65026),(.int (.ofNat 65026) 293)),((.ofNat 65027),(.int (.ofNat 65027) 294)),((.ofNat 65028),(.int (.ofNat 65028) 295)),((.ofNat 65029),(.int (.ofNat 65029) 296)),((.ofNat 6150),(.int (.ofNat 6150) 277)),((.ofNat 65030),(.int (.ofNat 65030) 297)),((.ofNat 65031),(.int (.ofNat 65031) 298)),((.ofNat 65032),(.int (.ofNat 65032) 299)),((.ofNat 65033),(.int (.ofNat 65033) 300)),((.ofNat 6155),(.int (.ofNat 6155) 278)),((.ofNat 6156),(.int (.ofNat 6156) 279)),((.ofNat 6157),(.int (.ofNat 6157) 280)),((.ofNat 8203),(.int (.ofNat 8203) 281)),((.ofNat 8204),(.int (.ofNat 8204) 282)),((.ofNat 8205),(.int (.ofNat 8205) 283)),((.ofNat 65034),(.int (.ofNat 65034) 301)),((.ofNat 65035),(.int (.ofNat 65035) 302)),((.ofNat 65036),(.int (.ofNat 65036) 303)),((.ofNat 65037),(.int (.ofNat 65037) 304)),((.ofNat 65038),(.int (.ofNat 65038) 305)),((.ofNat 65039),(.int (.ofNat 65039) 306)),((.ofNat 173),(.int (.ofNat 173) 275)),((.ofNat 847),(.int (.ofNat 847) 276)),((.ofNat 8288),(.int (.ofNat 8288) 284)),((.ofNat 65279),(.int (.ofNat 65279) 285))]⟩ 29 ⟨127,⟨[0,1,2,3,4,5,6,7,8,9,10,11,12,13,14,15,16,17,18,19,20,21,22,45,79,96,127]⟩,⟨[]⟩,0,!P.followText "set-order",2,true⟩),⟨[]⟩⟩) ::
  (nat_lit 86,⟨(.type "list_iterator"),none,(.fields ⟨[.none,(.int (.ofNat 27) 0)]⟩),⟨[]⟩⟩) ::
  (nat_lit 87,⟨(.type "tuple"),none,(.seq ⟨[]⟩ 0),⟨[]⟩⟩) ::
  (nat_lit 88,⟨(.type "StopIteration"),none,(.fields ⟨[(.ref 87),.none,.none,.none,(.bool false),.none]⟩),⟨[]⟩⟩) ::
  (nat_lit 89,⟨(.type "tuple"),none,(.seq ⟨[]⟩ 0),⟨[]⟩⟩) ::
  (nat_lit 91,⟨(.type "tuple"),none,(.seq ⟨[(.str (Str.ofString "code") 338)]⟩ 0),⟨[]⟩⟩) ::
  (nat_lit 92,⟨(.type "tuple"),none,(.seq ⟨[]⟩ 0),⟨[]⟩⟩) ::
  (nat_lit 94,⟨(.type "code"),none,(.fields ⟨[(.str (Str.ofString "in_table_b1") 335),(.str (Str.ofString "in_table_b1") 336),(.str (Str.ofString "/claim/cut.py") 337),(.int (.ofNat 54) 0),(.int (.ofNat 1) 0),(.int (.ofNat 0) 0),(.int (.ofNat 0) 0),(.int (.ofNat 3) 0),(.ref 89),(.bool true),(.int (.ofNat 181) 0),(.ref 90),.none,(.ref 91),(.ref 92),(.ref 93),(.int (.ofNat 339) 0),(.int (.ofNat 54) 0),(.str (Str.ofString "/claim/cut.py") 340)]⟩),⟨[]⟩⟩) ::
  (nat_lit 95,⟨(.type "function"),none,(.func ⟨(Str.ofString "in_table_b1"),(Str.ofString "in_table_b1"),parInb,.stmts bodInb,scoInb,3,[],.none,.none,.none,(.str (Str.ofString "cpy313.stringprep") 273),none,(.ref 94),.none,0⟩),⟨[]⟩⟩) ::
  (nat_lit 96,o96 P) ::
  (nat_lit 135,⟨(.type "tuple"),none,(.seq ⟨[]⟩ 0),⟨[]⟩⟩) ::
  (nat_lit 137,⟨(.type "tuple"),none,(.seq ⟨[(.str (Str.ofString "code") 2296),(.str (Str.ofString "r") 2297)]⟩ 0),⟨[]⟩⟩) ::
  (nat_lit 138,⟨(.type "tuple"),none,(.seq ⟨[]⟩ 0),⟨[]⟩⟩) ::
  (nat_lit 140,⟨(.type "code"),none,(.fields ⟨[(.str (Str.ofString "map_table_b3") 2293),(.str (Str.ofString "map_table_b3") 2294),(.str (Str.ofString "/claim/cut.py") 2295),(.int (.ofNat 57) 0),(.int (.ofNat 1) 0),(.int (.ofNat 0) 0),(.int (.ofNat 0) 0),(.int (.ofNat 3) 0),(.ref 135),(.bool true),(.int (.ofNat 181) 0),(.ref 136),.none,(.ref 137),(.ref 138),(.ref 139),(.int (.ofNat 2298) 0),(.int (.ofNat 57) 0),(.str (Str.ofString "/claim/cut.py") 2299)]⟩),⟨[]⟩⟩) ::
  (nat_lit 141,⟨(.type "function"),none,(.func ⟨(Str.ofString "map_table_b3"),(Str.ofString "map_table_b3"),parMap,.stmts bodMap,scoMap,3,[],.none,.none,.none,(.str (Str.ofString "cpy313.stringprep") 273),none,(.ref 140),.none,0⟩),⟨[]⟩⟩) ::
  (nat_lit 142,⟨(.type "tuple"),none,(.seq ⟨[]⟩ 0),⟨[]⟩⟩) ::
  (nat_lit 144,⟨(.type "tuple"),none,(.seq ⟨[(.str (Str.ofString "text") 2306),(.str (Str.ofString "stream") 2307)]⟩ 0),⟨[]⟩⟩) ::
  (nat_lit 145,⟨(.type "tuple"),none,(.seq ⟨[(.str (Str.ofString "signs") 2308)]⟩ 0),⟨[]⟩⟩) ::
  (nat_lit 147,⟨(.type "code"),none,(.fields ⟨[(.str (Str.ofString "_law_lexer") 2303),(.str (Str.ofString "_law_lexer") 2304),(.str (Str.ofString "/claim/cut.py") 2305),(.int (.ofNat 63) 0),(.int (.ofNat 1) 0),(.int (.ofNat 0) 0),(.int (.ofNat 0) 0),(.int (.ofNat 3) 0),(.ref 142),(.bool true),(.int (.ofNat 181) 0),(.ref 143),.none,(.ref 144),(.ref 145),(.ref 146),(.int (.ofNat 2309) 0),(.int (.ofNat 63) 0),(.str (Str.ofString "/claim/cut.py") 2310)]⟩),⟨[]⟩⟩) ::
  (nat_lit 148,⟨(.type "function"),none,(.func ⟨(Str.ofString "_law_lexer"),(Str.ofString "_law_lexer"),parLexer,.stmts bodLexer,scoLexer,3,[],.none,.none,.none,(.str (Str.ofString "law_to0035_01") 2301),none,(.ref 147),.none,0⟩),⟨[]⟩⟩) ::
  (nat_lit 149,⟨(.type "tuple"),none,(.seq ⟨[]⟩ 0),⟨[]⟩⟩) ::
  (nat_lit 151,⟨(.type "tuple"),none,(.seq ⟨[(.str (Str.ofString "k") 2315)]⟩ 0),⟨[]⟩⟩) ::
  (nat_lit 152,⟨(.type "tuple"),none,(.seq ⟨[]⟩ 0),⟨[]⟩⟩) ::
  (nat_lit 154,⟨(.type "code"),none,(.fields ⟨[(.str (Str.ofString "_law_hidden") 2312),(.str (Str.ofString "_law_hidden") 2313),(.str (Str.ofString "/claim/cut.py") 2314),(.int (.ofNat 69) 0),(.int (.ofNat 1) 0),(.int (.ofNat 0) 0),(.int (.ofNat 0) 0),(.int (.ofNat 3) 0),(.ref 149),(.bool true),(.int (.ofNat 181) 0),(.ref 150),.none,(.ref 151),(.ref 152),(.ref 153),(.int (.ofNat 2316) 0),(.int (.ofNat 69) 0),(.str (Str.ofString "/claim/cut.py") 2317)]⟩),⟨[]⟩⟩) ::
  (nat_lit 155,⟨(.type "function"),none,(.func ⟨(Str.ofString "_law_hidden"),(Str.ofString "_law_hidden"),parHidden,.stmts bodHidden,scoHidden,3,[],.none,.none,.none,(.str (Str.ofString "law_to0035_01") 2301),none,(.ref 154),.none,0⟩),⟨[]⟩⟩) ::
  (nat_lit 156,⟨(.type "tuple"),none,(.seq ⟨[]⟩ 0),⟨[]⟩⟩) ::
  (nat_lit 158,⟨(.type "tuple"),none,(.seq ⟨[(.str (Str.ofString "k") 2322)]⟩ 0),⟨[]⟩⟩) ::
  (nat_lit 159,⟨(.type "tuple"),none,(.seq ⟨[]⟩ 0),⟨[]⟩⟩) ::
  (nat_lit 161,⟨(.type "code"),none,(.fields ⟨[(.str (Str.ofString "_law_beside") 2319),(.str (Str.ofString "_law_beside") 2320),(.str (Str.ofString "/claim/cut.py") 2321),(.int (.ofNat 73) 0),(.int (.ofNat 1) 0),(.int (.ofNat 0) 0),(.int (.ofNat 0) 0),(.int (.ofNat 3) 0),(.ref 156),(.bool true),(.int (.ofNat 181) 0),(.ref 157),.none,(.ref 158),(.ref 159),(.ref 160),(.int (.ofNat 2323) 0),(.int (.ofNat 73) 0),(.str (Str.ofString "/claim/cut.py") 2324)]⟩),⟨[]⟩⟩) ::
  (nat_lit 162,⟨(.type "function"),none,(.func ⟨(Str.ofString "_law_beside"),(Str.ofString "_law_beside"),parBeside,.stmts bodBeside,scoBeside,3,[],.none,.none,.none,(.str (Str.ofString "law_to0035_01") 2301),none,(.ref 161),.none,0⟩),⟨[]⟩⟩) ::
  (nat_lit 163,⟨(.type "tuple"),none,(.seq ⟨[]⟩ 0),⟨[]⟩⟩) ::
  (nat_lit 165,⟨(.type "tuple"),none,(.seq ⟨[(.str (Str.ofString "n") 2329),(.str (Str.ofString "kind") 2330),(.str (Str.ofString "which") 2331),(.str (Str.ofString "sign") 2332),(.str (Str.ofString "great") 2333),(.str (Str.ofString "place") 2334),(.str (Str.ofString "two") 2335),(.str (Str.ofString "three") 2336)]⟩ 0),⟨[]⟩⟩) ::
  (nat_lit 166,⟨(.type "tuple"),none,(.seq ⟨[]⟩ 0),⟨[]⟩⟩) ::
  (nat_lit 168,⟨(.type "code"),none,(.fields ⟨[(.str (Str.ofString "_law_piece") 2326),(.str (Str.ofString "_law_piece") 2327),(.str (Str.ofString "/claim/cut.py") 2328),(.int (.ofNat 75) 0),(.int (.ofNat 1) 0),(.int (.ofNat 0) 0),(.int (.ofNat 0) 0),(.int (.ofNat 3) 0),(.ref 163),(.bool true),(.int (.ofNat 181) 0),(.ref 164),.none,(.ref 165),(.ref 166),(.ref 167),(.int (.ofNat 2337) 0),(.int (.ofNat 75) 0),(.str (Str.ofString "/claim/cut.py") 2338)]⟩),⟨[]⟩⟩) ::
  (nat_lit 169,⟨(.type "function"),none,(.func ⟨(Str.ofString "_law_piece"),(Str.ofString "_law_piece"),parPiece,.stmts bodPiece,scoPiece,3,[],.none,.none,.none,(.str (Str.ofString "law_to0035_01") 2301),none,(.ref 168),.none,0⟩),⟨[]⟩⟩) ::
  (nat_lit 170,⟨(.type "tuple"),none,(.seq ⟨[]⟩ 0),⟨[]⟩⟩) ::
  (nat_lit 172,⟨(.type "tuple"),none,(.seq ⟨[(.str (Str.ofString "script") 2343),(.str (Str.ofString "cells") 2344),(.str (Str.ofString "k") 2345),(.str (Str.ofString "signs") 2346),(.str (Str.ofString "means") 2347),(.str (Str.ofString "cell") 2348),(.str (Str.ofString "n") 2349),(.str (Str.ofString "piece") 2350)]⟩ 0),⟨[]⟩⟩) ::
  (nat_lit 173,⟨(.type "tuple"),none,(.seq ⟨[]⟩ 0),⟨[]⟩⟩) ::
  (nat_lit 175,⟨(.type "code"),none,(.fields ⟨[(.str (Str.ofString "_law_text") 2340),(.str (Str.ofString "_law_text") 2341),(.str (Str.ofString "/claim/cut.py") 2342),(.int (.ofNat 99) 0),(.int (.ofNat 1) 0),(.int (.ofNat 0) 0),(.int (.ofNat 0) 0),(.int (.ofNat 3) 0),(.ref 170),(.bool true),(.int (.ofNat 181) 0),(.ref 171),.none,(.ref 172),(.ref 173),(.ref 174),(.int (.ofNat 2351) 0),(.int (.ofNat 99) 0),(.str (Str.ofString "/claim/cut.py") 2352)]⟩),⟨[]⟩⟩) ::
  (nat_lit 176,⟨(.type "function"),none,(.func ⟨(Str.ofString "_law_text"),(Str.ofString "_law_text"),parText,.stmts bodText,scoText,3,[],.none,.none,.none,(.str (Str.ofString "law_to0035_01") 2301),none,(.ref 175),.none,0⟩),⟨[]⟩⟩) ::
  (nat_lit 177,⟨(.type "tuple"),none,(.seq ⟨[]⟩ 0),⟨[]⟩⟩) ::
  (nat_lit 180,⟨(.type "code"),none,(.fields ⟨[(.str (Str.ofString "_law_prepared") 2354),(.str (Str.ofString "_law_prepared") 2355),(.str (Str.ofString "/claim/cut.py") 2356),(.int (.ofNat 111) 0),(.int (.ofNat 1) 0),(.int (.ofNat 0) 0),(.int (.ofNat 0) 0),(.int (.ofNat 3) 0),(.ref 177),(.bool true),(.int (.ofNat 181) 0),(.ref 178),.none,.none,.none,(.ref 179),(.int (.ofNat 2357) 0),(.int (.ofNat 111) 0),(.str (Str.ofString "/claim/cut.py") 2358)]⟩),⟨[]⟩⟩) ::
  (nat_lit 181,⟨(.type "function"),none,(.func ⟨(Str.ofString "_law_prepared"),(Str.ofString "_law_prepared"),parPrep,.stmts bodPrep,scoPrep,3,[],.none,.none,.none,(.str (Str.ofString "law_to0035_01") 2301),none,(.ref 180),.none,0⟩),⟨[]⟩⟩) ::
  (nat_lit 182,⟨(.type "tuple"),none,(.seq ⟨[]⟩ 0),⟨[]⟩⟩) ::
  (nat_lit 185,⟨(.type "code"),none,(.fields ⟨[(.str (Str.ofString "_law_last_part") 2360),(.str (Str.ofString "_law_last_part") 2361),(.str (Str.ofString "/claim/cut.py") 2362),(.int (.ofNat 116) 0),(.int (.ofNat 3) 0),(.int (.ofNat 0) 0),(.int (.ofNat 0) 0),(.int (.ofNat 3) 0),(.ref 182),(.bool true),(.int (.ofNat 181) 0),(.ref 183),.none,.none,.none,(.ref 184),(.int (.ofNat 2363) 0),(.int (.ofNat 116) 0),(.str (Str.ofString "/claim/cut.py") 2364)]⟩),⟨[]⟩⟩) ::
  (nat_lit 186,⟨(.type "function"),none,(.func ⟨(Str.ofString "_law_last_part"),(Str.ofString "_law_last_part"),parLast,.stmts bodLast,scoLast,3,[],.none,.none,.none,(.str (Str.ofString "law_to0035_01") 2301),none,(.ref 185),.none,0⟩),⟨[]⟩⟩) ::
  (nat_lit 187,⟨(.type "tuple"),none,(.seq ⟨[]⟩ 0),⟨[]⟩⟩) ::
  (nat_lit 190,⟨(.type "code"),none,(.fields ⟨[(.str (Str.ofString "law") 2366),(.str (Str.ofString "law") 2367),(.str (Str.ofString "/claim/cut.py") 2368),(.int (.ofNat 121) 0),(.int (.ofNat 1) 0),(.int (.ofNat 0) 0),(.int (.ofNat 0) 0),(.int (.ofNat 3) 0),(.ref 187),(.bool true),(.int (.ofNat 181) 0),(.ref 188),.none,.none,.none,(.ref 189),(.int (.ofNat 2369) 0),(.int (.ofNat 121) 0),(.str (Str.ofString "/claim/cut.py") 2370)]⟩),⟨[]⟩⟩) ::
  (nat_lit 191,⟨(.type "function"),none,(.func ⟨(Str.ofString "law"),(Str.ofString "law"),parLaw,.stmts bodLaw,scoLaw,3,[],.none,.none,.none,(.str (Str.ofString "law_to0035_01") 2301),none,(.ref 190),.none,0⟩),⟨[]⟩⟩) :: []
noncomputable def Kas : List Addr := [2,3,4,5,6,7,9,10,11,13,14,15,16,17,18,20,21,22,24,25,27,28,29,31,32,34,35,36,38,39,41,42,43,45,46,48,49,50,51,52,53,54,55,56,57,59,60,62,63,64,66,67,69,70,71,73,74,76,77,78,79,80,81,82,83,84,85,86,87,88,89,91,92,94,95,96,135,137,138,140,141,142,144,145,147,148,149,151,152,154,155,156,158,159,161,162,163,165,166,168,169,170,172,173,175,176,177,180,181,182,185,186,187,190,191]
end
end
local macro_rules | `(tactic| kl_no) => `(tactic| first | exact cj0 (by kpc_g) | exact cj1 (by kpc_g) | exact cj2 (by kpc_g) | exact cj3 (by kpc_g) | exact cj4 (by kpc_g) | exact cj5 (by kpc_g) | exact cj6 (by kpc_g) | exact cj7 (by kpc_g) | exact cj8 (by kpc_g) | exact cj9 (by kpc_g) | exact cl1 (by kpc_g) | exact cl2 (by kpc_g) | exact cl3 (by kpc_g) | exact cl4 (by kpc_g) | exact cl5 (by kpc_g) | exact cl6 (by kpc_g) | exact cl7 (by kpc_g) | exact cl8 (by kpc_g) | exact cl9 (by kpc_g))
local macro_rules | `(tactic| ki_room) => `(tactic| first | kpc_g | with_reducible exact lts1 | with_reducible exact lts2 | with_reducible exact lts3 | with_reducible exact lts4 | with_reducible exact lts5 | with_reducible exact lts6 | with_reducible exact lts7 | with_reducible exact lts8 | ((fail_if_success with_reducible show @LT.lt Nat _ _ (@OfNat.ofNat Nat _ _)); (with_reducible show @LT.lt Nat _ _ (_ + 1)); first | exact ltp1 (by kpc_g) | exact ltp2 (by kpc_g) | exact ltp3 (by kpc_g) | exact ltp4 (by kpc_g) | exact ltp5 (by kpc_g) | exact ltp6 (by kpc_g) | exact ltp7 (by kpc_g) | exact ltp8 (by kpc_g)) | exact ltr (by kpc_g) (by ki_room))
local macro_rules | `(tactic| kpc_kind) => `(tactic| first | kpc_g | exact ltl (by kpc_g) (by kpc_kind))
local macro_rules | `(tactic| kl_some) => `(tactic| first | kl_no | exact ltr (by kpc_g) (by first | kl_no | exact ltr (by kpc_g) (by kl_no)))
local macro_rules | `(tactic| kl_room) => `(tactic| first | ki_room | kpc_kind | kl_some | exact lel (by kpc_g) (by ki_room) | exact lte (by kpc_g) (by ki_room))
local macro_rules | `(tactic| kpc_obj) => `(tactic| first | kpc_g | with_reducible exact Ne.symm (by assumption) | exact Nat.ne_of_lt (by ki_room) | exact Nat.ne_of_gt (by ki_room) | exact Nat.ne_of_lt (by kpc_kind) | exact Nat.ne_of_gt (by kpc_kind) | exact Nat.ne_of_lt (by kl_some) | exact Nat.ne_of_gt (by kl_some) | kl_no | exact Ne.symm (by kl_no) | exact ner (by kpc_g) (by first | kpc_g | with_reducible exact Ne.symm (by assumption)) | exact Nat.ne_of_lt (lte (by kpc_g) (by ki_room)) | exact Nat.ne_of_lt (etl (by kpc_g) (by ki_room)) | exact Nat.ne_of_lt (lel (by kpc_g) (by ki_room)))
local macro_rules | `(tactic| omega) => `(tactic| first | kpc_g | decide | ((with_reducible show @LT.lt Nat _ _ _); first | exact uu1 (by kpc_g) (by decide) | exact uu2 (by kpc_g) (by decide) | exact uu3 (by kpc_g) (by decide) | exact ltb (by kpc_g) (by decide) | exact ltb1 (by kpc_g) (by decide)) | ((with_reducible show @LT.lt Nat _ _ _); (fail_if_success with_reducible show @LT.lt Nat _ _ (@OfNat.ofNat Nat _ _)); kl_room) | ((with_reducible show @Ne Nat _ _); kpc_obj) | ((with_reducible show False); exact eqf (by kpc_g) (by kpc_obj)) | ((with_reducible show @LE.le Nat _ _ _); first | with_reducible exact Nat.le_refl _ | exact Nat.le_of_not_lt (by kpc_g) | exact leb (by kpc_g) (by decide) | exact leb1 (by kpc_g) (by decide)) | (with_reducible refine And.intro ?_ ?_ <;> omega) | with_reducible rfl | kpc_none)
local macro_rules | `(tactic| k_mem) => `(tactic| first | exact mm0 | exact mm1 | exact mm2 | exact mm3 | (refine mm4 ?_; k_mem))
local macro_rules | `(tactic| kcf_m) => `(tactic| first | assumption | exact mm0 | exact mm1 | exact mm2 | exact mm3 | (refine mm4 ?_; kcf_m))
local macro_rules | `(tactic| kcf_all) => `(tactic| first | exact subn _ | exact fun _ h => h | (refine subc ?_ ?_; (focus kcf_m); kcf_all) | (refine suba ?_ ?_; (focus kcf_all); kcf_all))
local macro_rules | `(tactic| k_all) => `(tactic| first | exact nen _ | (refine nec ?_ ?_; (focus ((try dsimp only); omega)); k_all))
section
open PySem PySem.W PySem.Calls PyProof.Rows
set_option maxHeartbeats 0
noncomputable section
noncomputable def qv : Program := view pw [1, 3, 4, 5, 7, 8, 9, 10, 12, 13, 14, 15, 16, 17, 18, 19]
noncomputable def lo : List Str := [Str.ofString "b1_set", Str.ofString "b3_exceptions"]
theorem Kas_ok (P : Params) : Kas = (K P).map (·.1) := by kernel_rfl
noncomputable abbrev hk : Hook := kHook K Kas Kas_ok
noncomputable abbrev rr : RowW := OpenRow.toRowW PySem.Challenge.rw_to0035_01.row
noncomputable abbrev xt : Shared → Bool := fun s => xlAt qv [] s && recOk (RowW.records rr) s
noncomputable abbrev sF (w : World) (os : OsState) : Shared := ⟨absHeap (t20 w.params) 192 {}, ⟨[]⟩, boot_drawn, 2372, os⟩
theorem statics_go (w : World) : (staticsOk (importedModules pw.main.body) (boot_heap w.params) (absHeap (t20 w.params) 192 {})) = true := by kernel_rfl
theorem names_go (w : World) : namesBound pw (absHeap (t20 w.params) 192 {}) = true := by kernel_rfl
theorem laid_go (w : World) : laidKept (boot_heap w.params) (absHeap (t20 w.params) 192 {}) = true := by kernel_rfl
theorem hook_go (w : World) (os : OsState) : hk.obs (sF w os) = hk.val w := by kernel_rfl
end
end
section
open PySem PySem.W PySem.Calls PyProof.Rows
set_option maxHeartbeats 0
theorem seen_go (w : World) : (fun os => openSeen qv lo (importedModules pw.main.body) xt true (sF w os)) = fun _ => openGood qv lo := by
  rw [PySem.W.Fast.te4187177175401517315]
  kernel_rfl
end
section
open PySem PySem.W PySem.Calls PyProof.Rows
set_option maxHeartbeats 4000000
local macro_rules | `(tactic| kpc_none) => `(tactic| grind)
noncomputable abbrev tR (w : World) (n : Nat) (s : Shared) (t : Thread) : Option Shared := topRun treeTable pw w 11 (some (.ref 6)) n s t
noncomputable def Ev {α : Type} (w : World) (t : Sem α) (s : Shared) (p : Pos) (n : Nat) (a : α) (s' : Shared) (p' : Pos) : Prop :=
  ∀ (K : α → Sem Fin) (H : Value → Sem Fin) (gd : Bool → Bool) (lv : List Value → List Value) (N : Nat) (r : Shared), tR w N s' ⟨K a, cdT, p', BT0⟩ = some r → tR w (n + N) s ⟨t.wrap K H gd lv, cdT, p, BT0⟩ = some r
section
variable {α β : Type} {w : World} {s s' s₁ : Shared} {p p' p₁ : Pos} {n n₁ : Nat} {a : α} {b : β}
theorem Ev.leaf : Ev w (Sem.pure a) s p 0 a s p := fun K H gd lv N r h => by rw [Nat.zero_add]; exact h
theorem succ_eq (n N : Nat) : n + 1 + N = (n + N) + 1 := by omega
theorem Ev.rule {t : String} {k : Unit → Sem α} (h : Ev w (k ()) s p n a s' p') : Ev w (.rule t k) s p (n + 1) a s' p' := fun K H gd lv N r q => by
  rw [succ_eq]; exact h K H gd lv N r q
theorem Ev.at {x : Pos} {k : Unit → Sem α} (h : Ev w (k ()) s x n a s' p') : Ev w (.at x k) s p (n + 1) a s' p' := fun K H gd lv N r q => by
  rw [succ_eq]; exact h K H gd lv N r q
theorem Ev.point {l : List Value} {k : Unit → Sem α} (h : Ev w (k ()) s p n a s' p') : Ev w (.point l k) s p (n + 1) a s' p' := fun K H gd lv N r q => by
  rw [succ_eq]; exact h K H gd lv N r q
theorem Ev.ask {k : Setting → Sem α} (h : Ev w (k ⟨pw, w.params⟩) s p n a s' p') : Ev w (.ask k) s p (n + 1) a s' p' := fun K H gd lv N r q => by
  rw [succ_eq]; exact h K H gd lv N r q
theorem Ev.fresh {k : Tok → Sem α} (h : Ev w (k s.toks) { s with toks := s.toks + 1 } p n a s' p') : Ev w (.fresh k) s p (n + 1) a s' p' := fun K H gd lv N r q => by
  rw [succ_eq]; exact h K H gd lv N r q
theorem Ev.alloc {o : Obj} {k : Addr → Sem α} (h : Ev w (k s.heap.objs.size) { s with heap := s.heap.push o } p n a s' p') : Ev w (.alloc o k) s p (n + 1) a s' p' := fun K H gd lv N r q => by
  rw [succ_eq]; exact h K H gd lv N r q
theorem Ev.load {x : Addr} {y : Option Value} {o : Obj} {k : Obj → Sem α} (ho : s.heap.get? x = some o) (h : Ev w (k o) s p n a s' p') : Ev w (.load x y k) s p (n + 1) a s' p' := fun K H gd lv N r q => by
  rw [succ_eq]
  obtain ⟨hp, g, d, tk, os⟩ := s
  show (match step (denote treeTable) pw w ⟨hp, g, d, tk, os⟩ ⟨.load x y fun o => (k o).wrap K H gd lv, cdT, p, BT0⟩ with | .go s' t' => topRun treeTable pw w 11 (some (.ref 6)) (n + N) s' t' | .halt _ _ => none) = some r
  have ho' : hp.get? x = some o := ho
  simp only [step, ho']
  exact h K H gd lv N r q
theorem Ev.update {x : Addr} {y : Option Value} {f : Obj → Obj} {o : Obj} {k : Unit → Sem α} (ho : s.heap.get? x = some o) (hx : Nat.ble 11 x = true) (h : Ev w (k ()) { s with heap := s.heap.update x f } p n a s' p') : Ev w (.update x y f k) s p (n + 1) a s' p' := fun K H gd lv N r q => by
  rw [succ_eq]
  obtain ⟨hp, g, d, tk, os⟩ := s
  have e : stepOk 11 (some (.ref 6)) ⟨.update x y f fun u => (k u).wrap K H gd lv, cdT, p, BT0⟩ = true := by
    show (true && (Nat.ble 11 x || _ || _ || _)) = true
    rw [hx]; rfl
  show (match stepOk 11 (some (.ref 6)) ⟨.update x y f fun u => (k u).wrap K H gd lv, cdT, p, BT0⟩ with | false => none | true => match step (denote treeTable) pw w ⟨hp, g, d, tk, os⟩ ⟨.update x y f fun u => (k u).wrap K H gd lv, cdT, p, BT0⟩ with | .go s' t' => topRun treeTable pw w 11 (some (.ref 6)) (n + N) s' t' | .halt _ _ => none) = some r
  rw [e]
  have ho' : hp.get? x = some o := ho
  simp only [step, ho', Option.isSome_some, if_true]
  exact h K H gd lv N r q
theorem Ev.bind {m : Sem α} {f : α → Sem β} (h : Ev w m s p n a s₁ p₁) (k : Ev w (f a) s₁ p₁ n₁ b s' p') : Ev w (m >>= f) s p (n + n₁) b s' p' := fun K H gd lv N r q => by
  rw [Sem.bind_eq_wrap', Sem.wrap_wrap, Nat.add_assoc]
  exact h _ _ _ _ _ _ (k K H gd lv N r q)
theorem Ev.pur : Ev w (pure a : Sem α) s p 0 a s p := Ev.leaf
theorem Ev.eqb {m : Sem α} {f : α → Sem β} (e : m = pure a) (k : Ev w (f a) s p n b s' p') : Ev w (m >>= f) s p n b s' p' := by
  rw [e]; exact k
theorem Ev.bindn {m : Sem α} {f : α → Sem β} {q : Nat} (h : Ev w m s p n a s₁ p₁) (k : Ev w (f a) s₁ p₁ n₁ b s' p') (e : n + n₁ = q) : Ev w (m >>= f) s p q b s' p' := e ▸ Ev.bind h k
theorem Ev.keep {vs : List Value} {m : Sem α} (h : Ev w m s p n a s' p') : Ev w (m.keep vs) s p n a s' p' := fun K H gd lv N r q => by
  rw [Sem.keep_eq_wrap, Sem.wrap_wrap]
  exact h _ _ _ _ _ _ q
theorem Ev.holding {vs : List Value} {m : Sem α} (h : Ev w m s p n a s' p') : Ev w (holding vs m) s p n a s' p' := by
  unfold PySem.holding
  split
  · exact h
  · exact h.keep
theorem Ev.onRaise {m : Sem α} {f : Value → Sem Unit} (h : Ev w m s p n a s' p') : Ev w (m.onRaise f) s p n a s' p' := fun K H gd lv N r q => by
  rw [Sem.onRaise_eq_wrap, Sem.wrap_wrap]
  exact h _ _ _ _ _ _ q
theorem Ev.tryCatch {m : Sem α} {f : Value → Sem α} (h : Ev w m s p n a s' p') : Ev w (m.tryCatch f) s p n a s' p' := fun K H gd lv N r q => by
  rw [Sem.tryCatch_eq_wrap, Sem.wrap_wrap]
  exact h _ _ _ _ _ _ q
theorem Ev.of_seg {m : Sem α} (res : α → Flow) (hr : ∀ b, res b = res a → b = a) (h : ∀ gd lv, segRun treeTable pw w 11 (some (.ref 6)) 1 n s ⟨m.wrap (fun a => .pure (.done (res a))) deadEnd gd lv, cdT, p, BT0⟩ = some (res a, s', cdT, p')) : Ev w m s p n a s' p' := fun K H gd lv N r q => by
  obtain ⟨a', e, k⟩ := seg_top (K' := K) (H' := H) (gd := gd) (lv := lv) (B := BT0) rfl n s ⟨m.wrap (fun a => .pure (.done (res a))) deadEnd gd lv, cdT, p, BT0⟩ ⟨m.wrap K H gd lv, cdT, p, BT0⟩ _ _ _ _ ⟨rfl, rfl, .inl ⟨rfl, rfl, _, rfl, rfl⟩⟩ (h gd lv)
  obtain rfl := hr a' e
  exact k N r q
end
end
section
open PySem PySem.W PySem.Calls PyProof.Rows
set_option maxHeartbeats 4000000
section
variable {w : World} {s : Shared} {p : Pos}
theorem sp_hash (i : Nat) (t : Tok) : specialOf (.int (.ofNat i) t) "__hash__" = (Sem.pure (some (.builtin "int.__hash__")) : Sem (Option Value)) := by kernel_rfl
theorem bind_hash (i : Nat) (t : Tok) : bindSpecial (.builtin "int.__hash__") (.int (.ofNat i) t) = (Sem.pure (.builtin "int.__hash__", [.int (.ofNat i) t]) : Sem (Value × List Value)) := by kernel_rfl
theorem ev_call_hash (i : Nat) (t : Tok) : Ev w (PySem.call (.builtin "int.__hash__") [.int (.ofNat i) t]) s p 20 (.int (hashInt (.ofNat i)) s.toks) { s with toks := s.toks + 1 } p :=
  Ev.of_seg (fun v => .ret v) (fun b e => by injection e) fun gd lv => by
    obtain ⟨H, gens, dr, tk, os⟩ := s
    kernel_rfl
theorem hash_small (i : Nat) (hi : i < 2 ^ 61 - 1) : hashInt (.ofNat i) = Int.ofNat i := by
  have h2 : rawHash (.ofNat i) = Int.ofNat i := by
    unfold rawHash
    have h0 : ¬ (Int.ofNat i < 0) := by simp
    have h1 : ((Int.ofNat i).natAbs : Int) % ((2 ^ 61 - 1 : Nat) : Int) = Int.ofNat i := Int.emod_eq_of_lt (by simp) (by show (i : Int) < _; omega)
    simp only [h1, if_neg h0]
    rw [if_neg]
    intro e
    have := beq_iff_eq.mp e
    simp at this
  unfold hashInt
  rw [h2, if_neg]
  intro e
  have := beq_iff_eq.mp e
  simp at this
theorem ev_bsi (i : Nat) (t : Tok) : Ev w (bindSpecialIfBound? (.int (.ofNat i) t) "__hash__") s p 1 (some (.builtin "int.__hash__", [.int (.ofNat i) t])) s p := by
  unfold bindSpecialIfBound?
  refine Ev.eqb (sp_hash i t) ?_
  dsimp only
  refine Ev.bindn (n := 1) (n₁ := 0) (a := ⟨pw, w.params⟩) (Ev.ask Ev.leaf) ?_ rfl
  show Ev w (if w.params.followText "special-get-raises" = true then _ else _) s p _ _ _ _
  split
  · exact Ev.eqb (bind_hash i t) Ev.pur
  · exact Ev.tryCatch (Ev.eqb (bind_hash i t) Ev.pur)
theorem ev_csi (i : Nat) (t : Tok) (x : Sem Value) : Ev w (callSpecialIfBoundUnlessNone? (.int (.ofNat i) t) "__hash__" x) s p 21 (some (.int (hashInt (.ofNat i)) s.toks)) { s with toks := s.toks + 1 } p := by
  unfold callSpecialIfBoundUnlessNone?
  refine Ev.holding ?_
  refine Ev.bindn (n := 1) (n₁ := 20) (ev_bsi i t) ?_ rfl
  show Ev w (if (Value.builtin "int.__hash__" == Value.none) = true then _ else _) s p _ _ _ _
  rw [if_neg (by decide)]
  exact Ev.bindn (n := 20) (n₁ := 0) (ev_call_hash i t) Ev.pur rfl
theorem ev_hash (i : Nat) (t : Tok) (hi : i < 2 ^ 61 - 1) : Ev w (pyHash (.int (.ofNat i) t)) s p 21 (.ofNat i) { s with toks := s.toks + 1 } p := by
  have e := hash_small i hi
  show Ev w (pyHashByItsType (.int (.ofNat i) t)) s p _ _ _ _
  unfold pyHashByItsType
  refine Ev.eqb (a := ()) (by rw [cRoomFor, if_neg (by show ¬ (false = true); decide)]) ?_
  refine Ev.eqb (sp_hash i t) ?_
  rw [if_neg (by decide)]
  refine Ev.eqb (sp_hash i t) ?_
  rw [if_neg (by decide)]
  refine Ev.bindn (n := 21) (n₁ := 0) (ev_csi i t _) ?_ rfl
  dsimp only [pyHashByItsType.reduced]
  rw [e]
  rw [if_pos (by simp; omega), if_neg (by simp)]
  exact Ev.pur
end
end
section
open PySem PySem.W PySem.Calls PyProof.Rows
set_option maxHeartbeats 4000000
local macro_rules | `(tactic| kpc_none) => `(tactic| grind)
noncomputable section
noncomputable def hp (l : List Obj) : Heap := ⟨⟨l⟩, {}⟩
@[reducible] noncomputable def dO (es : List DictEntry) (n : Nat) : Obj := ⟨.type "dict", none, .dict ⟨es⟩ n, ⟨[]⟩⟩
theorem hp_get (pre post : List Obj) (es : List DictEntry) (n : Nat) : (hp (pre ++ dO es n :: post)).get? pre.length = some (dO es n) := by
  unfold hp Heap.get?
  simp
theorem mod_at (o : Obj) (f : Obj → Obj) (post : List Obj) : ∀ pre : List Obj, (pre ++ o :: post).modify pre.length f = pre ++ f o :: post
  | [] => rfl
  | x :: r => by
    show (x :: (r ++ o :: post)).modify (r.length + 1) f = _
    rw [List.modify_succ_cons, mod_at o f post r]; rfl
theorem hp_upd (pre post : List Obj) (o : Obj) (f : Obj → Obj) : (hp (pre ++ o :: post)).update pre.length f = hp (pre ++ f o :: post) := by
  unfold hp Heap.update
  simp only [Heap.mk.injEq, and_true]
  apply Array.ext'
  simp [mod_at]
theorem hp_push (l : List Obj) (o : Obj) : (hp l).push o = hp (l ++ [o]) := by
  unfold hp Heap.push
  simp
theorem hp_size (l : List Obj) : (hp l).objs.size = l.length := by unfold hp; simp
@[reducible] noncomputable def S (os : OsState) (l : List Obj) (tk : Nat) : Shared := ⟨hp l, ⟨[]⟩, boot_drawn, tk, os⟩
section
variable {w : World} {s : Shared} {p : Pos} {os : OsState} {pre post : List Obj} {es : List DictEntry} {n tk : Nat}
theorem places_nil (es : Array DictEntry) (h : Int) (hne : ∀ e ∈ es.toList, e.hash ≠ h) : placesWithHash es.size (fun i => es[i]?.map (·.hash)) h = [] := by
  unfold placesWithHash
  rw [List.filter_eq_nil_iff]
  intro i hi
  have hlt : i < es.size := List.mem_range.mp hi
  simp only [Array.getElem?_eq_getElem hlt, Option.map_some, beq_iff_eq, Option.some.injEq]
  exact hne _ (Array.getElem_mem_toList hlt)
theorem ev_entries {d : Addr} {o : Obj} {es : Array DictEntry} {n : Nat} {part : Option Value} (h : s.heap.get? d = some o) (hd : o.data = .dict es n) : Ev w (dictEntries d part) s p 1 es s p := by
  unfold dictEntries
  refine Ev.bindn (n := 1) (n₁ := 0) (a := o) (Ev.load h Ev.leaf) ?_ rfl
  rw [hd]
  exact Ev.pur
theorem ev_epoch {d : Addr} {o : Obj} {es : Array DictEntry} {n : Nat} {part : Option Value} (h : s.heap.get? d = some o) (hd : o.data = .dict es n) : Ev w (dictEpoch d part) s p 1 n s p := by
  unfold dictEpoch
  refine Ev.bindn (n := 1) (n₁ := 0) (a := o) (Ev.load h Ev.leaf) ?_ rfl
  rw [hd]
  exact Ev.pur
theorem ev_find {d : Addr} {o : Obj} {es : Array DictEntry} {n : Nat} {i : Nat} {t : Tok} (h : s.heap.get? d = some o) (hd : o.data = .dict es n) (hne : ∀ e ∈ es.toList, e.hash ≠ Int.ofNat i) :
    Ev w (dictFind d (.int (.ofNat i) t) (.ofNat i)) s p 1 none s p := by
  unfold dictFind
  refine Ev.holding ?_
  refine Ev.bindn (n := 1) (n₁ := 0) (ev_entries h hd) ?_ rfl
  dsimp only
  rw [places_nil es _ hne]
  simp only [List.filterMap_nil, List.all_cons, List.all_nil, carriedByValue, Bool.and_true, if_true]
  exact Ev.pur
theorem ev_push {i : Nat} {t : Tok} {v : Value} {part : Option Value} (hl : es.length < 100000) (hp11 : Nat.ble 11 pre.length = true) :
    Ev w (updateDictKeys pre.length (·.push ⟨.ofNat i, .int (.ofNat i) t, v⟩) part) (S os (pre ++ dO es n :: post) tk) p 3 () (S os (pre ++ dO (es ++ [⟨.ofNat i, .int (.ofNat i) t, v⟩]) (n + 1) :: post) tk) p := by
  unfold updateDictKeys
  refine Ev.bindn (n := 1) (n₁ := 2) (a := dO es n) (Ev.load (hp_get ..) Ev.leaf) ?_ rfl
  dsimp only
  refine Ev.bindn (n := 1) (n₁ := 1) (a := ()) (Ev.update (hp_get ..) hp11 Ev.leaf) ?_ rfl
  have e : (hp (pre ++ dO es n :: post)).update pre.length (Obj.mapDictKeys (·.push ⟨.ofNat i, .int (.ofNat i) t, v⟩)) = hp (pre ++ dO (es ++ [⟨.ofNat i, .int (.ofNat i) t, v⟩]) (n + 1) :: post) := by
    rw [hp_upd]
    simp [Obj.mapDictKeys]
  dsimp only
  rw [e]
  unfold lookBehind
  refine Ev.bindn (n := 1) (n₁ := 0) (Ev.load (hp_get ..) Ev.leaf) ?_ rfl
  dsimp only [Data.pastItsLine]
  rw [if_neg]
  · exact Ev.pur
  · rw [sizeLine_eq]; simp; omega
theorem ev_put {i : Nat} {t : Tok} {v : Value} (hne : ∀ e ∈ es, e.hash ≠ Int.ofNat i) (hl : es.length < 100000) (hp11 : Nat.ble 11 pre.length = true) :
    Ev w (dictPut pre.length (.ofNat i) (.int (.ofNat i) t) v) (S os (pre ++ dO es n :: post) tk) p 4 () (S os (pre ++ dO (es ++ [⟨.ofNat i, .int (.ofNat i) t, v⟩]) (n + 1) :: post) tk) p := by
  unfold dictPut
  refine Ev.bindn (n := 1) (n₁ := 3) (ev_find (hp_get ..) rfl hne) ?_ rfl
  exact ev_push hl hp11
theorem ev_set {i : Nat} {t : Tok} {v : Value} (hi : i < 2 ^ 61 - 1) (hne : ∀ e ∈ es, e.hash ≠ Int.ofNat i) (hl : es.length < 100000) (hp11 : Nat.ble 11 pre.length = true) :
    Ev w (dictSet pre.length (.int (.ofNat i) t) v) (S os (pre ++ dO es n :: post) tk) p 26 () (S os (pre ++ dO (es ++ [⟨.ofNat i, .int (.ofNat i) t, v⟩]) (n + 1) :: post) (tk + 1)) p := by
  unfold dictSet
  refine Ev.holding ?_
  refine Ev.bindn (n := 21) (n₁ := 5) (ev_hash i t hi) ?_ rfl
  unfold dictSetHashed
  refine Ev.holding ?_
  refine Ev.bindn (n := 1) (n₁ := 4) (ev_find (hp_get ..) rfl hne) ?_ rfl
  dsimp only
  refine Ev.bindn (n := 1) (n₁ := 3) (a := ()) (Ev.rule Ev.leaf) ?_ rfl
  exact ev_push hl hp11
end
end
end
section
open PySem PySem.W PySem.Calls PyProof.Rows
set_option maxHeartbeats 4000000
local macro_rules | `(tactic| kpc_none) => `(tactic| grind)
noncomputable section
noncomputable abbrev Dat := List (Nat × Str)
noncomputable def prs (q : Pos) (D : Dat) : List (Sem Value × Sem Value) := D.map fun x => (mkInt (.ofNat x.1), do let v ← mkText x.2; standAt q; pure v)
noncomputable def ents : Nat → Dat → List DictEntry
  | _, [] => []
  | tk, x :: r => ⟨.ofNat x.1, .int (.ofNat x.1) tk, .str x.2 (tk + 1)⟩ :: ents (tk + 3) r
noncomputable def Asc : Nat → Dat → Prop
  | _, [] => True
  | k, x :: r => k < x.1 ∧ x.1 < 2 ^ 61 - 1 ∧ Asc x.1 r
noncomputable def Under (k : Nat) (es : List DictEntry) : Prop := ∀ e ∈ es, ∃ j : Nat, e.hash = Int.ofNat j ∧ j ≤ k
theorem Under.ne {k i : Nat} {es : List DictEntry} (h : Under k es) (hi : k < i) : ∀ e ∈ es, e.hash ≠ Int.ofNat i := by
  intro e he q
  obtain ⟨j, hj, hl⟩ := h e he
  rw [hj] at q
  have : j = i := Int.ofNat.inj q
  omega
theorem Under.snoc {k i : Nat} {es : List DictEntry} {a b : Value} (h : Under k es) (hi : k ≤ i) : Under i (es ++ [⟨.ofNat i, a, b⟩]) := by
  intro e he
  rcases List.mem_append.mp he with he | he
  · obtain ⟨j, hj, hl⟩ := h e he
    exact ⟨j, hj, by omega⟩
  · rw [List.mem_singleton] at he
    subst he
    exact ⟨i, rfl, Nat.le_refl _⟩
section
variable {w : World} {s : Shared} {p q : Pos} {os : OsState} {pre post : List Obj} {es : List DictEntry} {n tk k : Nat}
theorem ev_loop (body : Sem Value × Sem Value → PUnit → Sem (ForInStep PUnit))
    (hb : ∀ kv u, body kv u = (do let a ← kv.1; let b ← holding [a] kv.2; holding [a, b] (dictSet pre.length a b); pure (.yield ⟨⟩))) :
    ∀ (D : Dat) (es : List DictEntry) (n tk k : Nat) (p : Pos), Asc k D → Under k es → es.length + D.length < 100000 → Nat.ble 11 pre.length = true →
      Ev w (forIn (prs q D) PUnit.unit body) (S os (pre ++ dO es n :: post) tk) p (29 * D.length) PUnit.unit (S os (pre ++ dO (es ++ ents tk D) (n + D.length) :: post) (tk + 3 * D.length)) (if D = [] then p else q)
  | [], es, n, tk, k, p, _, _, _, _ => by
    simp only [prs, List.map_nil, List.forIn_nil, ents, List.append_nil, List.length_nil, Nat.add_zero, Nat.mul_zero, if_true]
    exact Ev.pur
  | x :: r, es, n, tk, k, p, ha, hu, hl, h11 => by
    obtain ⟨h1, h2, h3⟩ := ha
    have hl' : es.length + (r.length + 1) < 100000 := hl
    show Ev w (forIn ((mkInt (.ofNat x.1), do let v ← mkText x.2; standAt q; pure v) :: prs q r) PUnit.unit body) _ _ _ _ _ _
    rw [List.forIn_cons, hb]
    have ih := ev_loop body hb r (es ++ [⟨.ofNat x.1, .int (.ofNat x.1) tk, .str x.2 (tk + 1)⟩]) (n + 1) (tk + 3) x.1 q h3 (hu.snoc (Nat.le_of_lt h1)) (by simp; omega) h11
    have e1 : es ++ [⟨.ofNat x.1, .int (.ofNat x.1) tk, .str x.2 (tk + 1)⟩] ++ ents (tk + 3) r = es ++ ents tk (x :: r) := by simp [ents]
    have e2 : n + 1 + r.length = n + (x :: r).length := by simp; omega
    have e3 : tk + 3 + 3 * r.length = tk + 3 * (x :: r).length := by simp; omega
    rw [e1, e2, e3] at ih
    have e4 : (if r = [] then q else q) = (if (x :: r) = [] then p else q) := by simp
    rw [e4] at ih
    refine Ev.bindn (n := 29) (n₁ := 29 * r.length) (a := .yield PUnit.unit) (s₁ := S os (pre ++ dO (es ++ [⟨.ofNat x.1, .int (.ofNat x.1) tk, .str x.2 (tk + 1)⟩]) (n + 1) :: post) (tk + 3)) (p₁ := q) ?_ ?_ (by simp; omega)
    rotate_left
    · exact ih
    refine Ev.bindn (n := 1) (n₁ := 28) (a := .int (.ofNat x.1) tk) (Ev.fresh Ev.leaf) ?_ rfl
    refine Ev.bindn (n := 2) (n₁ := 26) (a := .str x.2 (tk + 1)) (s₁ := S os (pre ++ dO es n :: post) (tk + 2)) (p₁ := q) (Ev.holding ?_) ?_ rfl
    · refine Ev.bindn (n := 1) (n₁ := 1) (a := .str x.2 (tk + 1)) (Ev.fresh Ev.leaf) ?_ rfl
      exact Ev.bindn (n := 1) (n₁ := 0) (a := ()) (Ev.at Ev.leaf) Ev.pur rfl
    · exact Ev.bindn (n := 26) (n₁ := 0) (Ev.holding (ev_set h2 (hu.ne h1) (by omega) h11)) Ev.pur rfl
theorem ev_sub_long (D : Dat) (ha : Asc k D) (hl : 15 < D.length) (hl2 : D.length < 1000) (l : List Obj) (h11 : Nat.ble 11 l.length = true) :
    Ev w (subDict (prs q D)) (S os l tk) p (29 * D.length + 2) l.length (S os (l ++ [dO (ents tk D) D.length]) (tk + 3 * D.length)) q := by
  have hlen : (prs q D).length = D.length := by simp [prs]
  unfold subDict
  refine Ev.bindn (n := 1) (n₁ := 29 * D.length + 1) (a := l.length) (s₁ := S os (l ++ [dO [] 0]) tk) (p₁ := p) ?_ ?_ (by omega)
  · have : Ev w (alloc { cls := .type "dict", data := .dict #[] }) (S os l tk) p 1 (hp l).objs.size { (S os l tk) with heap := (hp l).push (dO [] 0) } p := Ev.alloc Ev.leaf
    rw [hp_push, hp_size] at this
    exact this
  dsimp only
  refine Ev.bindn (n := 29 * D.length + 1) (n₁ := 0) (a := ()) (p₁ := q) (Ev.holding ?_) Ev.pur rfl
  rw [hlen, if_neg (by omega)]
  refine Ev.bindn (n := 1) (n₁ := 29 * D.length) (a := ()) (Ev.rule Ev.leaf) ?_ (by omega)
  have z := ev_loop (w := w) (q := q) (os := os) (pre := l) (post := []) (fun kv _ => (do let a ← kv.1; let b ← holding [a] kv.2; holding [a, b] (dictSet l.length a b); pure (.yield ⟨⟩))) (fun _ _ => rfl) D [] 0 tk k p ha (fun _ h => nomatch h) (by simp; omega) h11
  rw [if_neg (by intro e; rw [e] at hl; simp at hl), List.nil_append, Nat.zero_add] at z
  exact Ev.bindn (n := 29 * D.length) (n₁ := 0) z Ev.pur rfl
theorem sub_self : isSubtype (.type "dict") (.type "dict") = (Sem.pure true : Sem Bool) := by rw [isSubtype_type]; kernel_rfl
theorem look_iter : typeLookup (.type "dict") "__iter__" = (Sem.pure (some (.builtin "dict.__iter__")) : Sem (Option Value)) := by rw [typeLookup_type, builtinLookup_eq_fast]; kernel_rfl
theorem ev_typeOf {a : Addr} {o : Obj} (h : s.heap.get? a = some o) : Ev w (typeOf (.ref a)) s p 1 o.cls s p := by
  unfold typeOf
  exact Ev.bindn (n := 1) (n₁ := 0) (a := o) (Ev.load h Ev.leaf) Ev.pur rfl
end
end
end
section
open PySem PySem.W PySem.Calls PyProof.Rows
set_option maxHeartbeats 4000000
local macro_rules | `(tactic| kpc_none) => `(tactic| grind)
noncomputable section
variable {w : World} {s : Shared} {p q : Pos} {os : OsState} {pre mid : List Obj} {es : List DictEntry} {n tk k : Nat}
noncomputable def Up : Nat → List DictEntry → Prop
  | _, [] => True
  | k, e :: r => ∃ i t v, e = ⟨.ofNat i, .int (.ofNat i) t, v⟩ ∧ k < i ∧ Up i r
theorem up_ents : ∀ (D : Dat) (k tk : Nat), Asc k D → Up k (ents tk D)
  | [], _, _, _ => trivial
  | x :: r, k, tk, h => ⟨x.1, tk, .str x.2 (tk + 1), rfl, h.1, up_ents r _ _ h.2.2⟩
theorem hp_get2 (pre mid : List Obj) (es su : List DictEntry) (n m : Nat) (A : Addr) (hA : A = pre.length + mid.length + 1) : (hp (pre ++ dO es n :: (mid ++ [dO su m]))).get? A = some (dO su m) := by
  have e : pre ++ dO es n :: (mid ++ [dO su m]) = (pre ++ dO es n :: mid) ++ dO su m :: [] := by simp
  have l : A = (pre ++ dO es n :: mid).length := by simp; omega
  rw [e, l]
  exact hp_get ..
theorem ev_merge_loop (su : List DictEntry) (m : Nat) (A : Addr) (hA : A = pre.length + mid.length + 1) (body : Nat → PUnit → Sem (ForInStep PUnit))
    (hb : ∀ i u, ∃ bad : Sem (ForInStep PUnit), ∃ bad2 : Sem (ForInStep PUnit), body i u = (do match (← dictEntries A)[i]? with
        | some e => (do holding [e.key, e.val] (dictPut pre.length e.hash e.key e.val); let x ← dictEpoch A; if (x != m) = true then bad2 else pure (.yield ⟨⟩))
        | none => bad)) (h11 : Nat.ble 11 pre.length = true) :
    ∀ (r done es : List DictEntry) (n k : Nat), su = done ++ r → Up k r → Under k es → es.length + r.length < 100000 →
      Ev w (forIn (List.range' done.length r.length) PUnit.unit body) (S os (pre ++ dO es n :: (mid ++ [dO su m])) tk) p (6 * r.length) PUnit.unit (S os (pre ++ dO (es ++ r) (n + r.length) :: (mid ++ [dO su m])) tk) p
  | [], done, es, n, k, _, _, _, _ => by
    simp only [List.length_nil, List.range'_zero, List.forIn_nil, List.append_nil, Nat.add_zero, Nat.mul_zero]
    exact Ev.pur
  | e :: r, done, es, n, k, hs, hu, hd, hl => by
    obtain ⟨i, t, v, rfl, h1, h2⟩ := hu
    have hl' : es.length + (r.length + 1) < 100000 := hl
    have ih := ev_merge_loop su m A hA body hb h11 r (done ++ [⟨.ofNat i, .int (.ofNat i) t, v⟩]) (es ++ [⟨.ofNat i, .int (.ofNat i) t, v⟩]) (n + 1) i (by rw [hs]; simp) h2 (hd.snoc (Nat.le_of_lt h1)) (by simp; omega)
    have e1 : es ++ [⟨.ofNat i, .int (.ofNat i) t, v⟩] ++ r = es ++ ⟨.ofNat i, .int (.ofNat i) t, v⟩ :: r := by simp
    have e2 : n + 1 + r.length = n + (r.length + 1) := by omega
    have e3 : (done ++ [(⟨.ofNat i, .int (.ofNat i) t, v⟩ : DictEntry)]).length = done.length + 1 := by simp
    rw [e1, e2, e3] at ih
    rw [List.length_cons, List.range'_succ, List.forIn_cons]
    refine Ev.bindn (n := 6) (n₁ := 6 * r.length) (a := .yield PUnit.unit) (s₁ := S os (pre ++ dO (es ++ [⟨.ofNat i, .int (.ofNat i) t, v⟩]) (n + 1) :: (mid ++ [dO su m])) tk) (p₁ := p) ?_ ?_ (by omega)
    rotate_left
    · exact ih
    obtain ⟨bad, bad2, hbe⟩ := hb done.length PUnit.unit
    rw [hbe]
    refine Ev.bindn (n := 1) (n₁ := 5) (ev_entries (hp_get2 _ _ _ _ _ _ A hA) rfl) ?_ rfl
    have hg : (⟨su⟩ : Array DictEntry)[done.length]? = some ⟨.ofNat i, .int (.ofNat i) t, v⟩ := by rw [hs]; simp
    rw [hg]
    dsimp only
    refine Ev.bindn (n := 4) (n₁ := 1) (Ev.holding (ev_put (hd.ne h1) (by omega) h11)) ?_ rfl
    refine Ev.bindn (n := 1) (n₁ := 0) (ev_epoch (hp_get2 _ _ _ _ _ _ A hA) rfl) ?_ rfl
    rw [if_neg (by simp)]
    exact Ev.pur
theorem ev_merge (su : List DictEntry) (m : Nat) (A : Addr) (hA : A = pre.length + mid.length + 1) (h11 : Nat.ble 11 pre.length = true) (hne : es ≠ []) (hu : Up k su) (hd : Under k es) (hl : es.length + su.length < 100000) :
    Ev w (mergeMapping pre.length (.ref A) false) (S os (pre ++ dO es n :: (mid ++ [dO su m])) tk) p (6 * su.length + 5) () (S os (pre ++ dO (es ++ su) (n + su.length) :: (mid ++ [dO su m])) tk) p := by
  unfold mergeMapping
  refine Ev.bindn (n := 1) (n₁ := 6 * su.length + 4) (a := true) (s₁ := S os (pre ++ dO es n :: (mid ++ [dO su m])) tk) (p₁ := p) ?_ ?_ (by omega)
  · unfold isInstance
    refine Ev.bindn (n := 1) (n₁ := 0) (ev_typeOf (hp_get2 _ _ _ _ _ _ A hA)) ?_ rfl
    show Ev w (isSubtype (.type "dict") (.type "dict")) _ _ _ _ _ _
    rw [sub_self]; exact Ev.leaf
  rw [if_pos rfl]
  refine Ev.bindn (n := 1) (n₁ := 6 * su.length + 3) (a := some (.builtin "dict.__iter__")) (s₁ := S os (pre ++ dO es n :: (mid ++ [dO su m])) tk) (p₁ := p) ?_ ?_ (by omega)
  · unfold specialOf
    refine Ev.bindn (n := 1) (n₁ := 0) (ev_typeOf (hp_get2 _ _ _ _ _ _ A hA)) ?_ rfl
    show Ev w (typeLookup (.type "dict") "__iter__") _ _ _ _ _ _
    rw [look_iter]; exact Ev.leaf
  refine Ev.eqb (a := true) rfl ?_
  have hA1 : (A == sysModules) = false := by
    rw [beq_eq_false_iff_ne]
    have := Nat.le_of_ble_eq_true h11
    have : sysModules = 1 := rfl
    rw [this]
    intro e
    have h3 : pre.length + mid.length + 1 = 1 := hA.symm.trans e
    omega
  dsimp only
  rw [if_neg (by rw [hA1]; decide)]
  refine Ev.bindn (n := 1) (n₁ := 6 * su.length + 2) (ev_entries (hp_get ..) rfl) ?_ (by omega)
  rw [if_neg (by simp [hne])]
  refine Ev.bindn (n := 1) (n₁ := 6 * su.length + 1) (ev_entries (hp_get2 _ _ _ _ _ _ A hA) rfl) ?_ (by omega)
  refine Ev.bindn (n := 1) (n₁ := 6 * su.length) (ev_epoch (hp_get2 _ _ _ _ _ _ A hA) rfl) ?_ (by omega)
  have hsz : (⟨su⟩ : Array DictEntry).size = su.length := rfl
  rw [hsz, List.range_eq_range']
  simp only [Bool.false_eq_true, if_false]
  refine Ev.bindn (n := 6 * su.length) (n₁ := 0) (a := PUnit.unit) ?_ Ev.pur rfl
  refine ev_merge_loop su m A hA _ ?_ h11 su [] es n k rfl hu hd hl
  exact fun i u => ⟨(do (unsupported "dict.changed-during-merge" : Sem PUnit); pure (.yield PUnit.unit)), (do (unsupported "dict.changed-during-merge" : Sem PUnit); pure (.yield PUnit.unit)), congrArg (fun f => dictEntries A >>= f) (funext fun (x : Array DictEntry) => by cases x[i]? <;> rfl)⟩
end
end
section
open PySem PySem.W PySem.Calls PyProof.Rows
set_option maxHeartbeats 4000000
local macro_rules | `(tactic| kpc_none) => `(tactic| grind)
noncomputable section
variable {w : World} {s : Shared} {p q : Pos} {os : OsState} {pre mid l : List Obj} {es : List DictEntry} {n tk k : Nat}
noncomputable def its (q : Pos) (D : Dat) : List (Option (Sem Value) × Sem Value) := (prs q D).map fun kv => (some kv.1, kv.2)
noncomputable def flu (run : List (Sem Value × Sem Value)) (main : Option Addr) : Sem (Option Addr) :=
  if run.isEmpty = true then pure main else match main with
    | none => do
      let x ← subDict run
      pure (some x)
    | some d => do
      let sub ← holding [.ref d] (subDict run)
      (holding [.ref d, .ref sub] (mergeMapping d (.ref sub) false)).onRaise fun x => do
        let _ ← holding [.ref d, x] (runValue (.builtin "proto.let_go" {}))
        pure ()
      pure (some d)
noncomputable abbrev Bdy := Option (Sem Value) × Sem Value → Option Addr × List (Sem Value × Sem Value) → Sem (ForInStep (Option Addr × List (Sem Value × Sem Value)))
structure Disp (B : Bdy) : Prop where
  more : ∀ k v main run, run.length + 1 ≠ 17 → B (some k, v) (main, run) = pure (.yield (main, run ++ [(k, v)]))
  full : ∀ k v main run, run.length + 1 = 17 → B (some k, v) (main, run) = (flu (run ++ [(k, v)]) main >>= fun m => pure (.yield (m, [])))
theorem Disp.acc {B : Bdy} (h : Disp B) (R : Dat) (main : Option Addr) : ∀ (C : Dat) (run : List (Sem Value × Sem Value)), run.length + C.length < 17 →
    forIn (its q (C ++ R)) (main, run) B = forIn (its q R) (main, run ++ prs q C) B
  | [], run, _ => by simp [prs]
  | x :: C, run, hl => by
    have hl' : run.length + (C.length + 1) < 17 := hl
    show forIn ((some (mkInt (.ofNat x.1)), (do let v ← mkText x.2; standAt q; pure v)) :: its q (C ++ R)) (main, run) B = _
    rw [List.forIn_cons, h.more _ _ _ _ (by omega)]
    show forIn (its q (C ++ R)) (main, run ++ [_]) B = _
    rw [Disp.acc h R main C _ (by simp; omega)]
    simp [prs]
theorem Disp.chunk {B : Bdy} (h : Disp B) (R C : Dat) (c : Nat × Str) (main : Option Addr) (hl : C.length = 16) :
    forIn (its q (C ++ c :: R)) (main, []) B = (flu (prs q (C ++ [c])) main >>= fun m => forIn (its q R) (m, []) B) := by
  rw [h.acc (c :: R) main C [] (by simp [hl])]
  show forIn ((some (mkInt (.ofNat c.1)), (do let v ← mkText c.2; standAt q; pure v)) :: its q R) (main, [] ++ prs q C) B = _
  rw [List.forIn_cons, h.full _ _ _ _ (by simp [prs, hl])]
  have e : ([] ++ prs q C ++ [(mkInt (.ofNat c.1), (do let v ← mkText c.2; standAt q; pure v))]) = prs q (C ++ [c]) := by simp [prs]
  rw [e]
  have ba : ∀ {α β γ : Type} (m : Sem α) (f : α → Sem β) (g : β → Sem γ), (m >>= f) >>= g = m >>= fun a => f a >>= g := fun m f g => by
    show (m.bind f).bind g = m.bind fun a => (f a).bind g
    induction m <;> simp only [Sem.bind, *]
  rw [ba]
  rfl
theorem ev_flu0 (D : Dat) (ha : Asc k D) (hl : D.length = 17) (h11 : Nat.ble 11 l.length = true) :
    Ev w (flu (prs q D) none) (S os l tk) p 495 (some l.length) (S os (l ++ [dO (ents tk D) 17]) (tk + 51)) q := by
  have z := ev_sub_long (w := w) (q := q) (os := os) (tk := tk) (p := p) D ha (by omega) (by omega) l h11
  rw [hl] at z
  unfold flu
  rw [if_neg (by cases D <;> simp [prs] at hl ⊢)]
  exact Ev.bindn (n := 495) (n₁ := 0) z Ev.pur rfl
theorem ev_flu1 (D : Dat) (ha : Asc k D) (hl : D.length = 17) (h11 : Nat.ble 11 pre.length = true) (hne : es ≠ []) (hd : Under k es) (hs : es.length < 50000) :
    Ev w (flu (prs q D) (some pre.length)) (S os (pre ++ dO es n :: mid) tk) p 602 (some pre.length) (S os (pre ++ dO (es ++ ents tk D) (n + 17) :: (mid ++ [dO (ents tk D) 17])) (tk + 51)) q := by
  have hB : Nat.ble 11 (pre ++ dO es n :: mid).length = true := Nat.ble_eq_true_of_le (Nat.le_trans (Nat.le_of_ble_eq_true h11) (by simp))
  have z := ev_sub_long (w := w) (q := q) (os := os) (tk := tk) (p := p) D ha (by omega) (by omega) (pre ++ dO es n :: mid) hB
  have hel : ∀ (D : Dat) (tk : Nat), (ents tk D).length = D.length := by
    intro D; induction D with
    | nil => intro; rfl
    | cons x r ih => intro tk; simp [ents, ih]
  have y := ev_merge (w := w) (p := q) (os := os) (tk := tk + 51) (n := n) (mid := mid) (ents tk D) 17 (pre ++ dO es n :: mid).length (by rw [List.length_append, List.length_cons]; rfl) h11 hne (up_ents D k tk ha) hd (by rw [hel]; omega)
  rw [hel, hl] at y
  rw [hl] at z
  unfold flu
  rw [if_neg (by cases D <;> simp [prs] at hl ⊢)]
  refine Ev.bindn (n := 495) (n₁ := 107) (s₁ := S os (pre ++ dO es n :: (mid ++ [dO (ents tk D) 17])) (tk + 51)) (p₁ := q) (a := (pre ++ dO es n :: mid).length) (Ev.holding ?_) ?_ rfl
  · have e : pre ++ dO es n :: mid ++ [dO (ents tk D) 17] = pre ++ dO es n :: (mid ++ [dO (ents tk D) 17]) := by simp
    rw [← e]; exact z
  exact Ev.bindn (n := 107) (n₁ := 0) (a := ()) (Ev.onRaise (Ev.holding y)) Ev.pur rfl
end
end
section
open PySem PySem.W PySem.Calls PyProof.Rows
set_option maxHeartbeats 4000000
local macro_rules | `(tactic| kpc_none) => `(tactic| grind)
noncomputable section
variable {w : World} {s : Shared} {p q : Pos} {os : OsState} {pre mid l : List Obj} {es : List DictEntry} {n tk k : Nat}
noncomputable def lastK : Nat → Dat → Nat
  | k, [] => k
  | _, x :: r => lastK x.1 r
theorem asc_app : ∀ (C D : Dat) (k : Nat), Asc k (C ++ D) → Asc k C ∧ Asc (lastK k C) D
  | [], _, _, h => ⟨trivial, h⟩
  | x :: C, D, k, h => ⟨⟨h.1, h.2.1, (asc_app C D x.1 h.2.2).1⟩, (asc_app C D x.1 h.2.2).2⟩
theorem under_ents : ∀ (C : Dat) (k tk : Nat) (es : List DictEntry), Asc k C → Under k es → Under (lastK k C) (es ++ ents tk C)
  | [], k, tk, es, _, h => by simpa [ents, lastK] using h
  | x :: C, k, tk, es, ha, h => by
    have := under_ents C x.1 (tk + 3) (es ++ [⟨.ofNat x.1, .int (.ofNat x.1) tk, .str x.2 (tk + 1)⟩]) ha.2.2 (h.snoc (Nat.le_of_lt ha.1))
    simpa [ents, lastK] using this
theorem ents_len : ∀ (D : Dat) (tk : Nat), (ents tk D).length = D.length
  | [], _ => rfl
  | x :: r, tk => by simp [ents, ents_len r]
noncomputable def entsC : Nat → List Dat → List DictEntry
  | _, [] => []
  | tk, C :: Cs => ents tk C ++ entsC (tk + 51) Cs
noncomputable def subsC : Nat → List Dat → List Obj
  | _, [] => []
  | tk, C :: Cs => dO (ents tk C) 17 :: subsC (tk + 51) Cs
theorem split17 {C : Dat} (h : C.length = 17) : ∃ C' c, C = C' ++ [c] ∧ C'.length = 16 := by
  refine ⟨C.dropLast, C.getLast (by intro e; rw [e] at h; simp at h), (List.dropLast_concat_getLast _).symm, by simp [h]⟩
theorem ev_chunks {B : Bdy} (h : Disp B) (R : Dat) (hR : R.length < 17) (h11 : Nat.ble 11 pre.length = true) : ∀ (Cs : List Dat) (es : List DictEntry) (n : Nat) (mid : List Obj) (tk k : Nat) (p : Pos), (∀ C ∈ Cs, C.length = 17) → Asc k (Cs.flatten ++ R) → Under k es → es ≠ [] → es.length + 17 * Cs.length < 50000 →
    Ev w (forIn (its q (Cs.flatten ++ R)) (some pre.length, []) B) (S os (pre ++ dO es n :: mid) tk) p (602 * Cs.length) (some pre.length, prs q R)
      (S os (pre ++ dO (es ++ entsC tk Cs) (n + 17 * Cs.length) :: (mid ++ subsC tk Cs)) (tk + 51 * Cs.length)) (if Cs = [] then p else q)
  | [], es, n, mid, tk, k, p, _, _, _, _, _ => by
    have e := h.acc (q := q) [] (some pre.length) R [] (by simpa using hR)
    rw [List.append_nil] at e
    show Ev w (forIn (its q R) (some pre.length, []) B) _ _ _ _ _ _
    rw [e]
    simp only [entsC, subsC, List.append_nil, List.length_nil, Nat.mul_zero, Nat.add_zero, if_true, List.nil_append]
    show Ev w (forIn ([] : List (Option (Sem Value) × Sem Value)) _ B) _ _ _ _ _ _
    rw [List.forIn_nil]
    exact Ev.pur
  | C :: Cs, es, n, mid, tk, k, p, hC, ha, hu, hne, hl => by
    have hl' : es.length + 17 * (Cs.length + 1) < 50000 := hl
    have h17 := hC C (.head _)
    obtain ⟨C', c, rfl, h16⟩ := split17 h17
    rw [List.flatten_cons, List.append_assoc] at ha ⊢
    obtain ⟨a1, a2⟩ := asc_app _ _ _ ha
    rw [show C' ++ [c] ++ (Cs.flatten ++ R) = C' ++ c :: (Cs.flatten ++ R) by simp, h.chunk _ _ _ _ h16]
    have ih := ev_chunks h R hR h11 Cs (es ++ ents tk (C' ++ [c])) (n + 17) (mid ++ [dO (ents tk (C' ++ [c])) 17]) (tk + 51) _ q (fun D hD => hC D (.tail _ hD)) a2 (under_ents _ _ tk _ a1 hu) (by simp [hne]) (by rw [List.length_append, ents_len, h17]; omega)
    have e1 : es ++ ents tk (C' ++ [c]) ++ entsC (tk + 51) Cs = es ++ entsC tk ((C' ++ [c]) :: Cs) := by simp [entsC]
    have e2 : n + 17 + 17 * Cs.length = n + 17 * ((C' ++ [c]) :: Cs).length := by simp; omega
    have e3 : mid ++ [dO (ents tk (C' ++ [c])) 17] ++ subsC (tk + 51) Cs = mid ++ subsC tk ((C' ++ [c]) :: Cs) := by simp [subsC]
    have e4 : tk + 51 + 51 * Cs.length = tk + 51 * ((C' ++ [c]) :: Cs).length := by simp; omega
    have e5 : (if Cs = [] then q else q) = (if (C' ++ [c]) :: Cs = [] then p else q) := by simp
    rw [e1, e2, e3, e4, e5] at ih
    exact Ev.bindn (n := 602) (n₁ := 602 * Cs.length) (ev_flu1 (C' ++ [c]) a1 h17 h11 hne hu (by omega)) ih (by simp; omega)
theorem ev_display (C : Dat) (Cs : List Dat) (R : Dat) (hC0 : C.length = 17) (hC : ∀ C ∈ Cs, C.length = 17) (hR : R.length < 17) (hk : Asc k (C ++ (Cs.flatten ++ R))) (h11 : Nat.ble 11 l.length = true) (hl : 17 * Cs.length < 40000)
    {N : Nat} {s' : Shared} {p' : Pos} (hlast : Ev w (flu (prs q R) (some l.length)) (S os (l ++ dO (ents tk C ++ entsC (tk + 51) Cs) (17 + 17 * Cs.length) :: subsC (tk + 51) Cs) (tk + 51 + 51 * Cs.length)) q N (some l.length) s' p') :
    Ev w (dictDisplay (its q (C ++ (Cs.flatten ++ R)))) (S os l tk) p (495 + 602 * Cs.length + N) (.ref l.length) s' p' := by
  obtain ⟨a1, a2⟩ := asc_app _ _ _ hk
  obtain ⟨C', c, rfl, h16⟩ := split17 hC0
  unfold dictDisplay
  dsimp only
  refine Ev.bindn (n := 495 + 602 * Cs.length) (n₁ := N) (a := (some l.length, prs q R)) (s₁ := S os (l ++ dO (ents tk (C' ++ [c]) ++ entsC (tk + 51) Cs) (17 + 17 * Cs.length) :: subsC (tk + 51) Cs) (tk + 51 + 51 * Cs.length)) (p₁ := q) ?_ ?_ rfl
  · generalize hB : (fun (x : Option (Sem Value) × Sem Value) (r : Option Addr × List (Sem Value × Sem Value)) => (_ : Sem (ForInStep (Option Addr × List (Sem Value × Sem Value))))) = B
    have h : Disp B := by
      subst hB
      refine ⟨fun k v main run hne => ?_, fun k v main run he => ?_⟩
      · dsimp only
        rw [if_neg (by simp; omega)]
      · dsimp only
        rw [if_pos (by simp; omega)]
        rfl
    rw [show C' ++ [c] ++ (Cs.flatten ++ R) = C' ++ c :: (Cs.flatten ++ R) by simp, h.chunk _ _ _ _ h16]
    refine Ev.bindn (n := 495) (n₁ := 602 * Cs.length) (ev_flu0 (C' ++ [c]) a1 hC0 h11) ?_ rfl
    have z := ev_chunks (w := w) (q := q) (os := os) h R hR h11 Cs (ents tk (C' ++ [c])) 17 [] (tk + 51) _ q hC a2 (by simpa using under_ents (C' ++ [c]) k tk [] a1 (fun _ h => nomatch h)) (by simp [← List.length_eq_zero_iff, ents_len]) (by rw [ents_len, hC0]; omega)
    have e5 : (if Cs = [] then q else q) = q := by simp
    rw [e5] at z
    exact z
  · refine Ev.bindn (n := N) (n₁ := 0) hlast ?_ rfl
    exact Ev.pur
end
end
section
open PySem PySem.W PySem.Calls PyProof.Rows
set_option maxHeartbeats 4000000
local macro_rules | `(tactic| kpc_none) => `(tactic| grind)
noncomputable section
variable {w : World} {s : Shared} {p q : Pos} {os : OsState} {pre post mid l : List Obj} {es : List DictEntry} {n tk k : Nat}
noncomputable def vals : Nat → Dat → List (Value × Value)
  | _, [] => []
  | tk, x :: r => (.int (.ofNat x.1) tk, .str x.2 (tk + 1)) :: vals (tk + 2) r
noncomputable def ents2 : Nat → Dat → List DictEntry
  | _, [] => []
  | tk, x :: r => ⟨.ofNat x.1, .int (.ofNat x.1) tk, .str x.2 (tk + 1)⟩ :: ents2 (tk + 2) r
theorem ents2_len : ∀ (D : Dat) (tk : Nat), (ents2 tk D).length = D.length
  | [], _ => rfl
  | x :: r, tk => by simp [ents2, ents2_len r]
theorem up_ents2 : ∀ (D : Dat) (k tk : Nat), Asc k D → Up k (ents2 tk D)
  | [], _, _, _ => trivial
  | x :: r, k, tk, h => ⟨x.1, tk, .str x.2 (tk + 1), rfl, h.1, up_ents2 r _ _ h.2.2⟩
theorem ev_pairs : ∀ (D : Dat) (tk : Nat) (p : Pos), Ev w (evalPairs (prs q D)) (S os l tk) p (3 * D.length) (vals tk D) (S os l (tk + 2 * D.length)) (if D = [] then p else q)
  | [], tk, p => by
    simp only [prs, List.map_nil, evalPairs, vals, List.length_nil, Nat.mul_zero, Nat.add_zero, if_true]
    exact Ev.pur
  | x :: r, tk, p => by
    have ih := ev_pairs r (tk + 2) q
    show Ev w (evalPairs ((mkInt (.ofNat x.1), do let v ← mkText x.2; standAt q; pure v) :: prs q r)) _ _ _ _ _ _
    unfold evalPairs
    refine Ev.bindn (n := 1) (n₁ := 3 * r.length + 2) (a := .int (.ofNat x.1) tk) (Ev.fresh Ev.leaf) ?_ (by simp; omega)
    refine Ev.bindn (n := 2) (n₁ := 3 * r.length) (a := .str x.2 (tk + 1)) (s₁ := S os l (tk + 2)) (p₁ := q) (Ev.holding ?_) ?_ (by omega)
    · refine Ev.bindn (n := 1) (n₁ := 1) (a := .str x.2 (tk + 1)) (Ev.fresh Ev.leaf) ?_ rfl
      exact Ev.bindn (n := 1) (n₁ := 0) (a := ()) (Ev.at Ev.leaf) Ev.pur rfl
    · have e2 : tk + 2 + 2 * r.length = tk + 2 * (x :: r).length := by simp; omega
      have e4 : (if r = [] then q else q) = (if (x :: r) = [] then p else q) := by simp
      rw [e2, e4] at ih
      exact Ev.bindn (n := 3 * r.length) (n₁ := 0) (Ev.holding ih) Ev.pur rfl
theorem ev_loop2 (body : Value × Value → PUnit → Sem (ForInStep PUnit)) (hb : ∀ kv u, body kv u = (do dictSet pre.length kv.1 kv.2; pure (.yield ⟨⟩))) :
    ∀ (D : Dat) (es : List DictEntry) (n tv tk k : Nat) (p : Pos), Asc k D → Under k es → es.length + D.length < 100000 → Nat.ble 11 pre.length = true →
      Ev w (forIn (vals tv D) PUnit.unit body) (S os (pre ++ dO es n :: post) tk) p (26 * D.length) PUnit.unit (S os (pre ++ dO (es ++ ents2 tv D) (n + D.length) :: post) (tk + D.length)) p
  | [], es, n, tv, tk, k, p, _, _, _, _ => by
    simp only [vals, List.forIn_nil, ents2, List.append_nil, List.length_nil, Nat.add_zero, Nat.mul_zero]
    exact Ev.pur
  | x :: r, es, n, tv, tk, k, p, ha, hu, hl, h11 => by
    obtain ⟨h1, h2, h3⟩ := ha
    have hl' : es.length + (r.length + 1) < 100000 := hl
    show Ev w (forIn ((.int (.ofNat x.1) tv, .str x.2 (tv + 1)) :: vals (tv + 2) r) PUnit.unit body) _ _ _ _ _ _
    rw [List.forIn_cons, hb]
    have ih := ev_loop2 body hb r (es ++ [⟨.ofNat x.1, .int (.ofNat x.1) tv, .str x.2 (tv + 1)⟩]) (n + 1) (tv + 2) (tk + 1) x.1 p h3 (hu.snoc (Nat.le_of_lt h1)) (by simp; omega) h11
    have e1 : es ++ [⟨.ofNat x.1, .int (.ofNat x.1) tv, .str x.2 (tv + 1)⟩] ++ ents2 (tv + 2) r = es ++ ents2 tv (x :: r) := by simp [ents2]
    have e2 : n + 1 + r.length = n + (x :: r).length := by simp; omega
    have e3 : tk + 1 + r.length = tk + (x :: r).length := by simp; omega
    rw [e1, e2, e3] at ih
    refine Ev.bindn (n := 26) (n₁ := 26 * r.length) (a := .yield PUnit.unit) (s₁ := S os (pre ++ dO (es ++ [⟨.ofNat x.1, .int (.ofNat x.1) tv, .str x.2 (tv + 1)⟩]) (n + 1) :: post) (tk + 1)) (p₁ := p) ?_ ?_ (by simp; omega)
    rotate_left
    · exact ih
    exact Ev.bindn (n := 26) (n₁ := 0) (ev_set h2 (hu.ne h1) (by omega) h11) Ev.pur rfl
theorem ev_sub_short (D : Dat) (ha : Asc k D) (hl : D.length ≤ 15) (l : List Obj) (h11 : Nat.ble 11 l.length = true) :
    Ev w (subDict (prs q D)) (S os l tk) p (29 * D.length + 1) l.length (S os (l ++ [dO (ents2 tk D) D.length]) (tk + 3 * D.length)) (if D = [] then p else q) := by
  have hlen : (prs q D).length = D.length := by simp [prs]
  unfold subDict
  refine Ev.bindn (n := 1) (n₁ := 29 * D.length) (a := l.length) (s₁ := S os (l ++ [dO [] 0]) tk) (p₁ := p) ?_ ?_ (by omega)
  · have : Ev w (alloc { cls := .type "dict", data := .dict #[] }) (S os l tk) p 1 (hp l).objs.size { (S os l tk) with heap := (hp l).push (dO [] 0) } p := Ev.alloc Ev.leaf
    rw [hp_push, hp_size] at this
    exact this
  dsimp only
  refine Ev.bindn (n := 29 * D.length) (n₁ := 0) (a := ()) (Ev.holding ?_) Ev.pur rfl
  rw [hlen, if_pos hl]
  refine Ev.bindn (n := 3 * D.length) (n₁ := 26 * D.length) (ev_pairs D tk p) ?_ (by omega)
  refine Ev.holding ?_
  have z := ev_loop2 (w := w) (os := os) (pre := l) (post := []) (fun kv _ => (do dictSet l.length kv.1 kv.2; pure (.yield ⟨⟩))) (fun _ _ => rfl) D [] 0 tk (tk + 2 * D.length) k (if D = [] then p else q) ha (fun _ h => nomatch h) (by simp; omega) h11
  rw [List.nil_append, Nat.zero_add, show tk + 2 * D.length + D.length = tk + 3 * D.length by omega] at z
  exact Ev.bindn (n := 26 * D.length) (n₁ := 0) z Ev.pur rfl
theorem ev_flu2 (D : Dat) (ha : Asc k D) (hl : D.length = 4) (h11 : Nat.ble 11 pre.length = true) (hne : es ≠ []) (hd : Under k es) (hs : es.length < 50000) :
    Ev w (flu (prs q D) (some pre.length)) (S os (pre ++ dO es n :: mid) tk) p 146 (some pre.length) (S os (pre ++ dO (es ++ ents2 tk D) (n + 4) :: (mid ++ [dO (ents2 tk D) 4])) (tk + 12)) q := by
  have hB : Nat.ble 11 (pre ++ dO es n :: mid).length = true := Nat.ble_eq_true_of_le (Nat.le_trans (Nat.le_of_ble_eq_true h11) (by simp))
  have z := ev_sub_short (w := w) (q := q) (os := os) (tk := tk) (p := p) D ha (by omega) (pre ++ dO es n :: mid) hB
  have y := ev_merge (w := w) (p := q) (os := os) (tk := tk + 12) (n := n) (mid := mid) (ents2 tk D) 4 (pre ++ dO es n :: mid).length (by rw [List.length_append, List.length_cons]; rfl) h11 hne (up_ents2 D k tk ha) hd (by rw [ents2_len]; omega)
  rw [ents2_len, hl] at y
  rw [hl, if_neg (by intro e; rw [e] at hl; simp at hl)] at z
  unfold flu
  rw [if_neg (by cases D <;> simp [prs] at hl ⊢)]
  refine Ev.bindn (n := 117) (n₁ := 29) (s₁ := S os (pre ++ dO es n :: (mid ++ [dO (ents2 tk D) 4])) (tk + 12)) (p₁ := q) (a := (pre ++ dO es n :: mid).length) (Ev.holding ?_) ?_ rfl
  · have e : pre ++ dO es n :: mid ++ [dO (ents2 tk D) 4] = pre ++ dO es n :: (mid ++ [dO (ents2 tk D) 4]) := by simp
    rw [← e]; exact z
  exact Ev.bindn (n := 29) (n₁ := 0) (a := ()) (Ev.onRaise (Ev.holding y)) Ev.pur rfl
end
end
section
open PySem PySem.W PySem.Calls PyProof.Rows
set_option maxHeartbeats 4000000
noncomputable section
noncomputable def dks : List (Option PySem.Expr) := match st 9 with | .Assign _ (.Dict ks _ _) _ => ks | _ => []
noncomputable def dvs : List PySem.Expr := match st 9 with | .Assign _ (.Dict _ vs _) _ => vs | _ => []
noncomputable def dpos : Pos := match st 9 with | .Assign _ (.Dict _ _ p) _ => p | _ => default
noncomputable def dtg : List PySem.Expr := match st 9 with | .Assign t _ _ => t | _ => []
noncomputable def dps : Pos := match st 9 with | .Assign _ _ p => p | _ => default
theorem st9 : st 9 = .Assign dtg (.Dict dks dvs dpos) dps := by kernel_rfl
noncomputable def ext : Option PySem.Expr × PySem.Expr → Nat × Str
  | (some (.Constant (.int (.ofNat i)) _ _), .Constant (.str x) _ _) => (i, x)
  | _ => (0, ⟨⟨[]⟩⟩)
noncomputable def dD : Dat := (dks.zip dvs).map ext
theorem items_eq : (evalEachOpt dks envT).zip ((evalEach dvs envT).map fun v => do let x ← v; standAt dpos; pure x) = its dpos dD := by kernel_rfl
noncomputable def C0 : Dat := dD.take 17
noncomputable def Cs : List Dat := (List.range 37).map fun j => (dD.drop (17 * (j + 1))).take 17
noncomputable def Rr : Dat := dD.drop 646
theorem dD_eq : dD = C0 ++ (Cs.flatten ++ Rr) := by kernel_rfl
noncomputable def ascB : Nat → Dat → Bool
  | _, [] => true
  | k, x :: r => Nat.blt k x.1 && Nat.blt x.1 2305843009213693951 && ascB x.1 r
theorem asc_of : ∀ (D : Dat) (k : Nat), ascB k D = true → Asc k D
  | [], _, _ => trivial
  | x :: r, k, h => by
    unfold ascB at h
    simp only [Bool.and_eq_true] at h
    exact ⟨Nat.le_of_ble_eq_true h.1.1, Nat.le_of_ble_eq_true h.1.2, asc_of r _ h.2⟩
theorem asc_dD : Asc 0 dD := asc_of _ _ (by kernel_rfl)
theorem len0 : C0.length = 17 := by kernel_rfl
theorem lenC : ∀ C ∈ Cs, C.length = 17 := by
  have : Cs.all (fun C => Nat.beq C.length 17) = true := by kernel_rfl
  intro C hC
  exact Nat.eq_of_beq_eq_true (List.all_eq_true.mp this C hC)
theorem lenR : Rr.length = 4 := by kernel_rfl
theorem lenCs : Cs.length = 37 := by kernel_rfl
end
end
section
open PySem PySem.W PySem.Calls PyProof.Rows
set_option maxHeartbeats 4000000
noncomputable section
variable {w : World} {os : OsState}
noncomputable abbrev L9 (P : Params) : List Obj := (t9 P).list 96
theorem len9 (P : Params) : (L9 P).length = 96 := by simp [BT.list]
noncomputable abbrev L9' (P : Params) : List Obj := L9 P ++ dO (ents 342 C0 ++ entsC 393 Cs ++ ents2 2280 Rr) 650 :: (subsC 393 Cs ++ [dO (ents2 2280 Rr) 4])
theorem ev_dict : Ev w (dictDisplay (its dpos dD)) (s9 w os).abs dpos 22915 (.ref 96) (S os (L9' w.params) 2292) dpos := by
  have h11 : Nat.ble 11 (L9 w.params).length = true := by rw [len9]; rfl
  have hk := asc_dD
  rw [dD_eq] at hk ⊢
  obtain ⟨a1, a2⟩ := asc_app _ _ _ hk
  obtain ⟨a3, a4⟩ := asc_app _ _ _ a2
  have hu : Under (lastK (lastK 0 C0) Cs.flatten) (ents 342 C0 ++ entsC 393 Cs) := by
    have key : ∀ (Ds : List Dat) (k tk : Nat) (es : List DictEntry), Asc k Ds.flatten → Under k es → Under (lastK k Ds.flatten) (es ++ entsC tk Ds) := by
      intro Ds
      induction Ds with
      | nil => intro k tk es _ h; simpa [entsC, lastK] using h
      | cons D Ds ih =>
        intro k tk es ha h
        rw [List.flatten_cons] at ha ⊢
        obtain ⟨b1, b2⟩ := asc_app _ _ _ ha
        have := ih _ (tk + 51) _ b2 (under_ents D k tk es b1 h)
        have la : ∀ (A B : Dat) (k : Nat), lastK k (A ++ B) = lastK (lastK k A) B := by
          intro A
          induction A with
          | nil => intro _ _; rfl
          | cons x A ih => intro B k; exact ih B x.1
        rw [la]
        simpa [entsC] using this
    exact key Cs _ 393 _ a3 (by simpa using under_ents C0 0 342 [] a1 (fun _ h => nomatch h))
  have hes : (ents 342 C0 ++ entsC 393 Cs).length = 646 := by kernel_rfl
  have hl2 := ev_flu2 (w := w) (q := dpos) (p := dpos) (os := os) (pre := L9 w.params) (mid := subsC 393 Cs) (es := ents 342 C0 ++ entsC 393 Cs) (n := 17 + 17 * Cs.length) (tk := 342 + 51 + 51 * Cs.length) Rr a4 lenR h11
    (by intro e; rw [e] at hes; cases hes) hu (by rw [hes]; decide)
  have z := ev_display (w := w) (q := dpos) (p := dpos) (os := os) (l := L9 w.params) (tk := 342) C0 Cs Rr len0 lenC (by rw [lenR]; decide) hk h11 (by rw [lenCs]; decide) hl2
  rw [len9, lenCs] at z
  exact z
end
end
section
open PySem PySem.W PySem.Calls PyProof.Rows
set_option maxHeartbeats 4000000
noncomputable section
variable {w : World} {os : OsState}
theorem swaps_no : swapsWithSole dtg (.Dict dks dvs dpos) dps.line envT = (Sem.pure false : Sem Bool) := by kernel_rfl
noncomputable def tail9 (v : Value) : Sem Flow := do assignStores envT v (← swappedStores dtg (.Dict dks dvs dpos) envT) ((assignEach dtg envT).map (·.2))
theorem ev_tail : Ev w (tail9 (.ref 96)) (S os (L9' w.params) 2292) dpos 30 .next (s10 w os).abs ⟨56, 0, 56, 13⟩ :=
  Ev.of_seg (fun f => f) (fun b e => e) fun gd lv => by kernel_rfl
theorem ev_st9 : Ev w (exec (st 9) envT) (s9 w os).abs ⟨54, 0, 55, 30⟩ 22947 .next (s10 w os).abs ⟨56, 0, 56, 13⟩ := by
  rw [st9]
  rw [exec_Assign_arm]
  refine Ev.bindn (n := 1) (n₁ := 22946) (a := ()) (p₁ := dps) (Ev.at Ev.leaf) ?_ rfl
  refine Ev.eqb swaps_no ?_
  rw [if_neg (by decide)]
  refine Ev.bindn (n := 22916) (n₁ := 30) (a := .ref 96) (s₁ := S os (L9' w.params) 2292) (p₁ := dpos) ?_ ev_tail rfl
  rw [arm_eval_Dict]
  refine Ev.bindn (n := 1) (n₁ := 22915) (a := ()) (p₁ := dpos) (Ev.at Ev.leaf) ?_ rfl
  rw [items_eq]
  exact ev_dict
end
end
section
open PySem PySem.W PySem.Calls PyProof.Rows
set_option maxHeartbeats 0
theorem pre_go (w : World) (os : OsState) : topGo treeTable pw w 11 (some (.ref 6)) 12 ⟨boot_heap w.params, ⟨[]⟩, boot_drawn, boot_toks, os⟩ (topStub pw) = some ((s0 w os).abs, ⟨denote treeTable cdT, cdT, pos0, BT0⟩) := by
  kernel_rfl
theorem bl_go (w : World) (os : OsState) : segRun treeTable pw w 11 (some (.ref 6)) 1 1 (s0 w os).abs (blockOf (behindTheImports pw) envT cdT pos0 BT0) = some (.next, (s0 w os).abs, cdT, pos0) := by
  kernel_rfl
theorem fin_go (w : World) (os : OsState) : topRun treeTable pw w 11 (some (.ref 6)) 2 (s20 w os).abs ⟨doneF .next, cdT, ⟨121, 0, 154, 113⟩, BT0⟩ = some (s20 w os).abs := by
  kernel_rfl
theorem pc0 (w : World) (os : OsState) : segRunT treeTable pw w 11 (some (.ref 6)) 1 10 (s0 w os) (pieceOf (st 0) envT cdT pos0 BT0) = some (.next, s1 w os, cdT, ⟨1, 0, 1, 8⟩) := by
  kernel_rfl
theorem pc1 (w : World) (os : OsState) : segRunT treeTable pw w 11 (some (.ref 6)) 1 324 (s1 w os) (pieceOf (st 1) envT cdT ⟨1, 0, 1, 8⟩ BT0) = some (.next, s2 w os, cdT, ⟨2, 0, 44, 35⟩) := by
  kernel_rfl
theorem pc2 (w : World) (os : OsState) : segRunT treeTable pw w 11 (some (.ref 6)) 1 10 (s2 w os) (pieceOf (st 2) envT cdT ⟨2, 0, 44, 35⟩ BT0) = some (.next, s3 w os, cdT, ⟨45, 0, 45, 8⟩) := by
  kernel_rfl
theorem pc3 (w : World) (os : OsState) : segRunT treeTable pw w 11 (some (.ref 6)) 1 31 (s3 w os) (pieceOf (st 3) envT cdT ⟨45, 0, 45, 8⟩ BT0) = some (.next, s4 w os, cdT, ⟨46, 0, 47, 16⟩) := by
  kernel_rfl
theorem pc4 (w : World) (os : OsState) : segRunT treeTable pw w 11 (some (.ref 6)) 1 31 (s4 w os) (pieceOf (st 4) envT cdT ⟨46, 0, 47, 16⟩ BT0) = some (.next, s5 w os, cdT, ⟨48, 0, 49, 16⟩) := by
  kernel_rfl
theorem pc5 (w : World) (os : OsState) : segRunT treeTable pw w 11 (some (.ref 6)) 1 31 (s5 w os) (pieceOf (st 5) envT cdT ⟨48, 0, 49, 16⟩ BT0) = some (.next, s6 w os, cdT, ⟨50, 0, 51, 16⟩) := by
  kernel_rfl
theorem pc6 (w : World) (os : OsState) : segRunT treeTable pw w 11 (some (.ref 6)) 1 10 (s6 w os) (pieceOf (st 6) envT cdT ⟨50, 0, 51, 16⟩ BT0) = some (.next, s7 w os, cdT, ⟨52, 0, 52, 8⟩) := by
  kernel_rfl
theorem pc7 (w : World) : (fun os => segRunT treeTable pw w 11 (some (.ref 6)) 1 999 (s7 w os) ⟨(execs [st 7] envT).wrap doneF deadEnd id id, cdT, ⟨52, 0, 52, 8⟩, BT0⟩) = fun os => some (.next, s8 w os, cdT, ⟨53, 0, 53, 6⟩) := by
  rw [PySem.W.Fast.te10110043849684766642, PySem.W.Fast.te14364793385576792824, PySem.W.Fast.te12563942051412417395]
  exact byRow2 "special-get-raises" (P := fun w => (fun os => PySem.W.Fast.tw10110043849684766642 PySem.W.Fast.tw14364793385576792824 pw w 11 (some (.ref 6)) 1 999 (s7 w os) ⟨(PySem.W.Fast.tw12563942051412417395 [st 7] envT).wrap doneF deadEnd id id, cdT, ⟨52, 0, 52, 8⟩, BT0⟩) = fun os => some (.next, s8 w os, cdT, ⟨53, 0, 53, 6⟩))
    (fun w => by kernel_rfl) (fun w => by kernel_rfl) w
theorem pc8 (w : World) (os : OsState) : segRunT treeTable pw w 11 (some (.ref 6)) 1 30 (s8 w os) (pieceOf (st 8) envT cdT ⟨53, 0, 53, 6⟩ BT0) = some (.next, s9 w os, cdT, ⟨54, 0, 55, 30⟩) := by
  kernel_rfl
theorem pc10 (w : World) (os : OsState) : segRunT treeTable pw w 11 (some (.ref 6)) 1 31 (s10 w os) (pieceOf (st 10) envT cdT ⟨56, 0, 56, 13⟩ BT0) = some (.next, s11 w os, cdT, ⟨57, 0, 61, 23⟩) := by
  kernel_rfl
theorem pc11 (w : World) (os : OsState) : segRunT treeTable pw w 11 (some (.ref 6)) 1 10 (s11 w os) (pieceOf (st 11) envT cdT ⟨57, 0, 61, 23⟩ BT0) = some (.next, s12 w os, cdT, ⟨62, 0, 62, 8⟩) := by
  kernel_rfl
theorem pc12 (w : World) (os : OsState) : segRunT treeTable pw w 11 (some (.ref 6)) 1 32 (s12 w os) (pieceOf (st 12) envT cdT ⟨62, 0, 62, 8⟩ BT0) = some (.next, s13 w os, cdT, ⟨63, 0, 68, 28⟩) := by
  kernel_rfl
theorem pc13 (w : World) (os : OsState) : segRunT treeTable pw w 11 (some (.ref 6)) 1 30 (s13 w os) (pieceOf (st 13) envT cdT ⟨63, 0, 68, 28⟩ BT0) = some (.next, s14 w os, cdT, ⟨69, 0, 72, 25⟩) := by
  kernel_rfl
theorem pc14 (w : World) (os : OsState) : segRunT treeTable pw w 11 (some (.ref 6)) 1 30 (s14 w os) (pieceOf (st 14) envT cdT ⟨69, 0, 72, 25⟩ BT0) = some (.next, s15 w os, cdT, ⟨73, 0, 74, 115⟩) := by
  kernel_rfl
theorem pc15 (w : World) (os : OsState) : segRunT treeTable pw w 11 (some (.ref 6)) 1 37 (s15 w os) (pieceOf (st 15) envT cdT ⟨73, 0, 74, 115⟩ BT0) = some (.next, s16 w os, cdT, ⟨75, 0, 98, 37⟩) := by
  kernel_rfl
theorem pc16 (w : World) (os : OsState) : segRunT treeTable pw w 11 (some (.ref 6)) 1 37 (s16 w os) (pieceOf (st 16) envT cdT ⟨75, 0, 98, 37⟩ BT0) = some (.next, s17 w os, cdT, ⟨99, 0, 110, 35⟩) := by
  kernel_rfl
theorem pc17 (w : World) (os : OsState) : segRunT treeTable pw w 11 (some (.ref 6)) 1 27 (s17 w os) (pieceOf (st 17) envT cdT ⟨99, 0, 110, 35⟩ BT0) = some (.next, s18 w os, cdT, ⟨111, 0, 115, 91⟩) := by
  kernel_rfl
theorem pc18 (w : World) (os : OsState) : segRunT treeTable pw w 11 (some (.ref 6)) 1 27 (s18 w os) (pieceOf (st 18) envT cdT ⟨111, 0, 115, 91⟩ BT0) = some (.next, s19 w os, cdT, ⟨116, 0, 120, 15⟩) := by
  kernel_rfl
theorem pc19 (w : World) (os : OsState) : segRunT treeTable pw w 11 (some (.ref 6)) 1 27 (s19 w os) (pieceOf (st 19) envT cdT ⟨116, 0, 120, 15⟩ BT0) = some (.next, s20 w os, cdT, ⟨121, 0, 154, 113⟩) := by
  kernel_rfl
theorem open_go : ∀ w : World, (fencedOpening treeTable pw w 40000).map (fun s => (s.heap, s.gens, s.drawn, s.toks)) = some (boot_heap w.params, Array.mk [], boot_drawn, boot_toks) :=
  boot_open (by kernel_rfl) (by kernel_rfl) (fun s => by kernel_rfl)
theorem size_go (w : World) : ((boot_heap w.params).isNs mainGlobals && (⟨[]⟩ : Array GenState).size == 0, (boot_heap w.params).objs.size, (boot_heap w.params).nsMap mainGlobals "__annotations__") = (true, 11, some (.ref 6)) := by kernel_rfl
theorem ev_piece {w : World} {stm : Stmt} {rest : List Stmt} {s s' r : Shared} {p p' : Pos} {n N : Nat} (h : Ev w (exec stm envT) s p n .next s' p') (k : tR w N s' (restOf rest envT cdT p' BT0) = some r) : tR w (n + N) s (restOf (stm :: rest) envT cdT p BT0) = some r := by
  unfold restOf
  rw [execs_cons_wrap]
  exact h _ _ _ _ _ _ k
theorem body_is : behindTheImports pw = [st 0, st 1, st 2, st 3, st 4, st 5, st 6, st 7, st 8, st 9, st 10, st 11, st 12, st 13, st 14, st 15, st 16, st 17, st 18, st 19] := by kernel_rfl
noncomputable abbrev Mtot : Nat := (12 + (1 + (10 + (324 + (10 + (31 + (31 + (31 + (10 + (999 + (30 + (22947 + (31 + (10 + (32 + (30 + (30 + (37 + (37 + (27 + (27 + (27 + 2))))))))))))))))))))))
theorem run_go (w : World) (os : OsState) : topRun treeTable pw w 11 (some (.ref 6)) Mtot ⟨boot_heap w.params, ⟨[]⟩, boot_drawn, boot_toks, os⟩ (topStub pw) = some (s20 w os).abs := by
  refine go_top (pre_go w os) (piece_block (bl_go w os) ?_)
  rw [body_is]
  refine piece_cons (segRun_of (pc0 w os)) ?_
  refine piece_cons (segRun_of (pc1 w os)) ?_
  refine piece_cons (segRun_of (pc2 w os)) ?_
  refine piece_cons (segRun_of (pc3 w os)) ?_
  refine piece_cons (segRun_of (pc4 w os)) ?_
  refine piece_cons (segRun_of (pc5 w os)) ?_
  refine piece_cons (segRun_of (pc6 w os)) ?_
  refine piece_app (l := [st 7]) (segRun_of (congrFun (pc7 w) os)) ?_
  refine piece_cons (segRun_of (pc8 w os)) ?_
  refine ev_piece ev_st9 ?_
  refine piece_cons (segRun_of (pc10 w os)) ?_
  refine piece_cons (segRun_of (pc11 w os)) ?_
  refine piece_cons (segRun_of (pc12 w os)) ?_
  refine piece_cons (segRun_of (pc13 w os)) ?_
  refine piece_cons (segRun_of (pc14 w os)) ?_
  refine piece_cons (segRun_of (pc15 w os)) ?_
  refine piece_cons (segRun_of (pc16 w os)) ?_
  refine piece_cons (segRun_of (pc17 w os)) ?_
  refine piece_cons (segRun_of (pc18 w os)) ?_
  refine piece_cons (segRun_of (pc19 w os)) ?_
  exact piece_nil (fin_go w os)
end
section
open PySem PySem.W PySem.Calls PyProof.Rows
set_option maxHeartbeats 4000000
noncomputable section
noncomputable abbrev hk2 : Hook := kmHook K Kas Kas_ok [143]
theorem hook2_go (w : World) (os : OsState) : hk2.obs (sF w os) = hk2.val w := by kernel_rfl
theorem left2 : LeftO pw qv lo xt hk2.obs hk2.val 40000 :=
  LeftO.of_pieces (H₀ := boot_heap) (H₁ := fun P => absHeap (t20 P) 192 {}) (gs₀ := ⟨[]⟩) (gs₁ := ⟨[]⟩) (d₀ := boot_drawn) (d₁ := boot_drawn) (k₀ := boot_toks) (k₁ := 2372) (m₀ := 11) (ann := some (.ref 6)) (M := Mtot)
    open_go size_go run_go (by decide +kernel) fun w => by
      have e := seen_go w
      funext os
      rw [statics_go, names_go, laid_go]
      have e1 := congrFun e os
      have e2 := hook2_go w os
      show (true && true && gensDone (sF w os) && true, openSeen qv lo (importedModules pw.main.body) xt true (sF w os), hk2.obs (sF w os)) = (true, openGood qv lo, hk2.val w)
      rw [e2]
      exact congrArg (fun x => (true, x, hk2.val w)) e1
end
end
section
open PySem PySem.W PySem.Calls PyProof.Rows PySem.Spec
set_option maxHeartbeats 4000000
noncomputable abbrev Clm (w : World) (mean : ExcName → Option Value) (mg mb : Str → Option Value) (f : Addr) (news : List (Addr × Obj)) (pre : Prop) (vs : List Value) (R : Tok → Value) : Prop :=
  ∀ (dp un : Nat) (gd : Option (List Code)) (cn : Str) (cs : Scope) (a : Addr) (ccd : Value) (cl : List (Str × Addr)) (outer : List Env) (A₀ : Around) (base h₀ : Heap) (L : Addr) (m : Str → Option Value) (s : Shared) (Q E : Value → Shared → Prop),
    Below A₀ base outer h₀ → Fr h₀ L s.heap m → (K w.params).In h₀ → News h₀ L s.heap news → Top qv (looseW qv lo) mean mg mb h₀ → cs.kind = .function →
    pre → dp + 20 < recursionLimit → un + 200 < cLine → CbRet h₀ L m news s Q R →
      wpAny (model pw w) (ktrTop dp un gd cn cs L a ccd cl outer) (call (.ref f) vs) Q E s
end
section
open PySem PySem.W PySem.Calls PyProof.Rows PySem.Spec PyProof.V PySem.SeqAt
set_option maxHeartbeats 4000000
local macro_rules | `(tactic| kpc_none) => `(tactic| grind)
noncomputable def SV : List Value → List Str → Prop
  | [], [] => True
  | v :: vs, x :: xs => (∃ t, v = .str x t) ∧ SV vs xs
  | _, _ => False
theorem SV.len : ∀ {vs : List Value} {xs : List Str}, SV vs xs → vs.length = xs.length
  | [], [], _ => rfl
  | _ :: _, _ :: _, h => by simp [SV.len h.2]
  | [], _ :: _, h => h.elim
  | _ :: _, [], h => h.elim
theorem SV.reads {h : Heap} : ∀ {vs : List Value} {xs : List Str}, SV vs xs → ReadsAll h vs (xs.map PyData.str) []
  | [], [], _ => .nil
  | _ :: _, x :: _, ⟨⟨t, e⟩, r⟩ => by
    subst e
    have := ReadsAll.cons (Reads.str (h := h) x t) (SV.reads (h := h) r)
    simpa using this
  | [], _ :: _, h => h.elim
  | _ :: _, [], h => h.elim
theorem SV.list {h : Heap} {a : Addr} {vs : List Value} {xs : List Str} {n : Nat} (hl : h.get? a = some (W.listOf vs.toArray n)) (hi : SV vs xs) : Reads h (.ref a) (.list (xs.map PyData.str)) [a] :=
  Reads.list hl rfl rfl (by simpa using SV.reads hi)
noncomputable def strsOk (xs : List Str) : Bool := xs.all PyData.strOk
theorem canLay_strs : ∀ xs : List Str, strsOk xs = true → PyData.canLayAll0 (xs.map PyData.str) = true
  | [], _ => by simp [PyData.canLayAll0]
  | x :: r, h => by
    simp only [strsOk, List.all_cons, Bool.and_eq_true] at h
    simp [PyData.canLayAll0, PyData.canLay0, h.1, canLay_strs r h.2]
theorem depth_strs : ∀ xs : List Str, PyData.depthAll (xs.map PyData.str) ≤ 1
  | [] => by simp [PyData.depthAll]
  | x :: r => by
    have := depth_strs r
    simp only [List.map_cons, PyData.depthAll, PyData.depth]
    omega
theorem shaped_strs (xs : List Str) (h : strsOk xs = true) : shaped (.list (xs.map PyData.str)) = true := by
  have h1 := depth_strs xs
  have h2 : PyData.depth (.list (xs.map PyData.str)) ≤ 64 := by simp only [PyData.depth]; omega
  show (PyData.canLay0 (.list (xs.map PyData.str)) && decide (PyData.depth (.list (xs.map PyData.str)) ≤ 64)) = true
  rw [Bool.and_eq_true]
  exact ⟨by simp only [PyData.canLay0]; exact canLay_strs xs h, decide_eq_true h2⟩
theorem noMix_strs : ∀ xs ys : List Str, noMixAll (xs.map PyData.str) (ys.map PyData.str) = true
  | [], [] => by simp [noMixAll]
  | [], _ :: _ => by simp [noMixAll]
  | _ :: _, [] => by simp [noMixAll]
  | _ :: r, _ :: q => by simp [noMixAll, noMix, noMix_strs r q]
theorem same_strs : ∀ xs ys : List Str, PySem.Spec.sameAll (xs.map PyData.str) (ys.map PyData.str) = decide (xs = ys)
  | [], [] => by simp [PySem.Spec.sameAll]
  | [], _ :: _ => by simp [PySem.Spec.sameAll]
  | _ :: _, [] => by simp [PySem.Spec.sameAll]
  | x :: r, y :: q => by
    simp only [List.map_cons, PySem.Spec.sameAll, PySem.Spec.same, same_strs r q]
    by_cases h : x = y <;> simp [h]
section
variable {prog : Program} {w : World} {A : Around} {E : Value → Shared → Prop} {s : Shared} {env : Env} {h₀ : Heap} {L sl l : Addr} {m : Str → Option Value} {news : List (Addr × Obj)} {vs us : List Value} {xs ys : List Str} {k k2 : Nat}
theorem eq_strs {Q : Value → Shared → Prop} (h1 : s.heap.get? sl = some (W.listOf vs.toArray k)) (h2 : s.heap.get? l = some (W.listOf us.toArray k2)) (v1 : SV vs xs) (v2 : SV us ys) (o1 : strsOk xs = true) (o2 : strsOk ys = true) (hu : A.units + 64 < cLine)
    (h : Q (.bool (decide (xs = ys))) s) : wpAny (model prog w) A (compareOp .Eq (.ref sl) (.ref l)) Q E s :=
  eq_dataH_same (SV.list h1 v1) (SV.list h2 v2) (shaped_strs xs o1) (shaped_strs ys o2) hu (by simp only [noMix]; exact noMix_strs xs ys) (by simp only [PySem.Spec.same]; rw [same_strs]; exact h)
theorem ne_strs {Q : Value → Shared → Prop} (h1 : s.heap.get? sl = some (W.listOf vs.toArray k)) (h2 : s.heap.get? l = some (W.listOf us.toArray k2)) (v1 : SV vs xs) (v2 : SV us ys) (o1 : strsOk xs = true) (o2 : strsOk ys = true) (hu : A.units + 64 < cLine)
    (h : Q (.bool (!decide (xs = ys))) s) : wpAny (model prog w) A (compareOp .NotEq (.ref sl) (.ref l)) Q E s :=
  ne_dataH_same (SV.list h1 v1) (SV.list h2 v2) (shaped_strs xs o1) (shaped_strs ys o2) hu (by simp only [noMix]; exact noMix_strs xs ys) (by simp only [PySem.Spec.same]; rw [same_strs]; exact h)
theorem isT_ne_nil {x : Str} {p1 p2 p3 : Pos} {whole : Sem Value} {Q : Bool → Shared → Prop} (F : Fr h₀ L s.heap m) (N : News h₀ L s.heap news) (hm : (sl, W.listOf vs.toArray k) ∈ news) (v1 : SV vs xs) (o1 : strsOk xs = true) (hu : A.units + 64 < cLine)
    (hx : ∀ Q' : Value → Shared → Prop, Q' (.ref sl) s → wpAny (model prog w) A (eval (.Name x p1) env) Q' E s)
    (h : ∀ h', Fr h₀ L h' m → News h₀ L h' news → Q (!decide (xs = [])) { s with heap := h' }) :
    wpAny (model prog w) A (isTrue (.Compare (.Name x p1) [.NotEq] [.List [] p2] p3) env whole) Q E s := by
  refine wpAny_isTrue_Compare1 (hx _ (List_ ?_)) rfl
  refine wpAny_pure (newList_N F N fun h' F' N' => ?_)
  refine ne_strs (sl := sl) (vs := vs) (us := []) (k := k) (k2 := 0) (N' _ (.tail _ hm)).1 (N' _ (.head _)).1 v1 (ys := []) trivial o1 rfl hu ?_
  refine wpAny_pure ?_
  exact h h' F' (fun q hq => N' q (.tail _ hq))
theorem isT_ne_nil0 {x : Str} {p1 p2 p3 : Pos} {whole : Sem Value} {Q : Bool → Shared → Prop} (F : Fr h₀ L s.heap m) (N : News h₀ L s.heap news) (hm : (sl, W.listOf vs.toArray k) ∈ news) (v1 : SV vs xs) (o1 : strsOk xs = true) (hu : A.units + 64 < cLine)
    (hx : ∀ Q' : Value → Shared → Prop, Q' (.ref sl) s → wpAny (model prog w) A (eval (.Name x p1) env) Q' E s) (hn : xs = [])
    (h : ∀ h', Fr h₀ L h' m → News h₀ L h' news → Q false { s with heap := h' }) :
    wpAny (model prog w) A (isTrue (.Compare (.Name x p1) [.NotEq] [.List [] p2] p3) env whole) Q E s := isT_ne_nil F N hm v1 o1 hu hx (by rw [hn]; exact h)
theorem isT_ne_nil1 {x : Str} {p1 p2 p3 : Pos} {whole : Sem Value} {Q : Bool → Shared → Prop} (F : Fr h₀ L s.heap m) (N : News h₀ L s.heap news) (hm : (sl, W.listOf vs.toArray k) ∈ news) (v1 : SV vs xs) (o1 : strsOk xs = true) (hu : A.units + 64 < cLine)
    (hx : ∀ Q' : Value → Shared → Prop, Q' (.ref sl) s → wpAny (model prog w) A (eval (.Name x p1) env) Q' E s) (hn : xs ≠ [])
    (h : ∀ h', Fr h₀ L h' m → News h₀ L h' news → Q true { s with heap := h' }) :
    wpAny (model prog w) A (isTrue (.Compare (.Name x p1) [.NotEq] [.List [] p2] p3) env whole) Q E s := isT_ne_nil F N hm v1 o1 hu hx (by rw [decide_eq_false hn]; exact h)
end
end
section
open PySem PySem.W PySem.Calls PyProof.Rows PySem.Spec
set_option maxHeartbeats 2000000
noncomputable abbrev tq : Program := topProg
noncomputable abbrev lz : List Str := looseW qv lo ++ (recsOf qv).map (·.name) ++ (litsOf qv).map (·.1) ++ (clssOf qv (looseW qv lo)).map (·.name)
noncomputable def HasCode : Prop := ∃ h : Heap, CodeHd h 147 143
noncomputable abbrev KCx (w : World) (mean : ExcName → Option Value) (mg mb : Str → Option Value) (f : Addr) (news : List (Addr × Obj)) (vs : List Value) (Ok : Value → List (Addr × Obj) → Prop) : Prop :=
  ∀ (dp un : Nat) (gd : Option (List Code)) (cn : Str) (cs : Scope) (a : Addr) (ccd : Value) (cl : List (Str × Addr)) (outer : List Env) (A₀ : Around) (base h₀ : Heap) (L : Addr) (m : Str → Option Value) (s : Shared) (R : Result → Shared → Prop),
    Below A₀ base outer h₀ → Fr h₀ L s.heap m → (K w.params).In h₀ → News h₀ L s.heap news → Top tq lz mean mg mb h₀ → cs.kind = .function →
    dp + 20 < recursionLimit → un + 200 < cLine → (∀ v' h' tk' news', Ok v' news' → Fr h₀ L h' m → News h₀ L h' news' → GSub s.heap h' (news.map (·.1)) → R (.ok (.ret v')) { s with heap := h', toks := tk' }) →
      codeAny (model pw w) (ktrTop dp un gd cn cs L a ccd cl outer) (.call (.ref f) ⟨vs, []⟩) R s
noncomputable abbrev KCy (w : World) (mean : ExcName → Option Value) (mg mb : Str → Option Value) (f : Addr) (news : List (Addr × Obj)) (vs : List Value) (Ok : Value → List (Addr × Obj) → Prop) : Prop :=
  ∀ (dp un : Nat) (gd : Option (List Code)) (cn : Str) (cs : Scope) (a : Addr) (ccd : Value) (cl : List (Str × Addr)) (outer : List Env) (A₀ : Around) (base h₀ : Heap) (L : Addr) (m : Str → Option Value) (s : Shared) (R : Result → Shared → Prop),
    Below A₀ base outer h₀ → Fr h₀ L s.heap m → (K w.params).In h₀ → News h₀ L s.heap news → Top tq lz mean mg mb h₀ → cs.kind = .function →
    dp + 40 < recursionLimit → un + 400 < cLine → (∀ v' h' tk' news', Ok v' news' → Fr h₀ L h' m → News h₀ L h' news' → GSub s.heap h' (news.map (·.1)) → R (.ok (.ret v')) { s with heap := h', toks := tk' }) →
      codeAny (model pw w) (ktrTop dp un gd cn cs L a ccd cl outer) (.call (.ref f) ⟨vs, []⟩) R s
theorem News.stay {h₀ h h' : Heap} {L : Addr} {news more : List (Addr × Obj)} (N : News h₀ L h more) (G : GSub h h' (news.map (·.1))) (hd : ∀ p ∈ more, p.1 ∉ news.map (·.1)) : News h₀ L h' more :=
  fun p hp => ⟨G _ _ (N p hp).1 (hd p hp), (N p hp).2⟩
theorem gsub_end {h g h' : Heap} {adr : List Addr} {L' : Addr} {m' : Str → Option Value} (G : GSub h g adr) (F : Fr g L' h' m') : GSub h h' adr := fun b o e n => F.keep b o (G b o e n)
noncomputable abbrev dE (w : World) (k : String) (t : Tok) (v : Value) : DictEntry := ⟨PyData.keyHash w.params (Str.ofString k), .str (Str.ofString k) t, v⟩
noncomputable abbrev lamP : Arguments := unw (x := ⟨_, _, _, _, _, _, _⟩) (y := (match bodLexer with | [_, _, _, .Assign _ (.Lambda a _ _ _) _, _] => a | _ => default)) (.refl _)
noncomputable abbrev lamS : Scope := unw (x := ⟨_, _, _, _, _⟩) (y := (match bodLexer with | [_, _, _, .Assign _ (.Lambda _ _ s _) _, _] => s | _ => default)) (.refl _)
noncomputable abbrev lamB : PySem.Expr := unw (x := .IfExp _ _ _ _) (y := (match bodLexer with | [_, _, _, .Assign _ (.Lambda _ b _ _) _, _] => b | _ => default)) (.refl _)
structure LP where
  x : Addr
  d : Addr
  y : Addr
  dy : Addr
  f : Addr
  c : Addr
  cc : Addr
  sl : Addr
  pl : Addr
  pl2 : Addr
  ws2 : Str
  t1 : Tok
  t2 : Tok
  t3 : Tok
  t4 : Tok
  t5 : Tok
  t6 : Tok
  t7 : Tok
  t8 : Tok
  t9 : Tok
  u1 : Tok
  u2 : Tok
  u3 : Tok
  oc : Obj
  ocv : Array Value
  tq : Tok
  pm : Value
  ctv : Value
  co : Obj
structure LP.Ok (p : LP) : Prop where
  hco : p.co.data = .cell (some (.ref p.sl))
  hoc : p.oc.data = .fields p.ocv
  hoc1 : p.ocv[1]? = some (.str (Str.ofString "_law_lexer.<locals>.<lambda>") p.tq)
structure LP.Far (p : LP) : Prop where
  o1 : @LT.lt Nat _ p.cc p.sl
  o2 : @LT.lt Nat _ p.sl p.dy
  o3 : @LT.lt Nat _ p.dy p.y
  o4 : @LT.lt Nat _ p.y p.pl2
  o5 : @LT.lt Nat _ p.pl2 p.f
  o6 : @LT.lt Nat _ p.f p.d
  o7 : @LT.lt Nat _ p.d p.x
  o8 : @LT.lt Nat _ p.x p.pl
  o9 : @Ne Nat p.c p.d
  o10 : @Ne Nat p.c p.sl
  o11 : @Ne Nat p.c p.pl
noncomputable abbrev wsT : Str := Str.ofString "\n\t\r "
noncomputable abbrev lexL (w : World) (p : LP) (n : Int) (tn : Tok) (vs : List Value) (k : Nat) : List (Addr × Obj) :=
  [(p.x, instObj 52 p.d), (p.d, dictOf [dE w "lineno" p.t1 (.int n tn), dE w "instream" p.t2 (.ref p.y), dE w "whitespace" p.t3 (.str wsT p.u1), dE w "pushback" p.t4 (.ref p.pl)] 4), (p.y, instObj 52 p.dy),
   (p.dy, dictOf [dE w "lineno" p.t5 (.int 1 p.u2), dE w "instream" p.t6 .none, dE w "whitespace" p.t7 (.str p.ws2 p.u3), dE w "pushback" p.t8 (.ref p.pl2), dE w "read" p.t9 (.ref p.f)] 5),
   (p.f, kla_obj (Str.ofString "<lambda>") (Str.ofString "_law_lexer.<locals>.<lambda>") lamP lamB lamS [(Str.ofString "signs", p.cc)] p.pm p.c p.ctv), (p.c, p.oc), (p.cc, p.co), (p.sl, PySem.W.listOf vs.toArray k)]
section
variable {prog : Program} {w : World} {A : Around} {E : Value → Shared → Prop} {s : Shared} {h₀ : Heap} {L D : Addr} {m : Str → Option Value} {news news' : List (Addr × Obj)} {vs : List Value} {v : Value} {n : Nat}
theorem pop0 {u : Tok} {Q : Value → Shared → Prop} (F : Fr h₀ L s.heap m) (N : News h₀ L s.heap news) (U : Upd D (W.listOf (v :: vs).toArray n) (W.listOf vs.toArray (n + 1)) news news')
    (hz : (v :: vs).length ≤ sizeLine) (h : ∀ h', Fr h₀ L h' m → News h₀ L h' news' → Q v { s with heap := h' }) : wpAny (model prog w) A (call (.builtin "list.pop") [.ref D, .int 0 u]) Q E s :=
  kl_popAt (its := (v :: vs).toArray) (i := 0) (k := 0) (p := []) (q := vs) (y := v) F N rfl (by unfold seqIndex?; simp) rfl U hz h
end
end
section
open PySem PySem.W PySem.Calls PyProof.Rows PySem.Spec
local macro_rules | `(tactic| k_room) => `(tactic| ((try dsimp only); (simp only [depth_under_make, depth_under_kw, depth_in1, depth_deeper, depth_caller, recursionLimit] at *); omega))
local macro_rules | `(tactic| k_units) => `(tactic| ((try dsimp only); (have hcL9 := cLine_is); (simp only [units_in1, units_deeper, Around.mark_units, units_caller, cLine] at *); omega))
local macro_rules | `(tactic| cell_enter) => `(tactic| (refine' code_defG (by k_asm) (by k_asm) (by k_asm) (by k_asm) (by k_asm) rfl rfl (by assumption) (by k_is) (by k_is) (by ktr_room) (by exact BindsTo.of_eq rfl) (by exact locs rfl) ?_ rfl rfl rfl (by decide); k_whole; intro g' L' h' FG' F' N' B' X' T' kG'; (try dsimp only); (try k_lift B'); (try k_fold)))
section
open PySem PySem.W PySem.Calls PyProof.Rows PySem.Spec
set_option maxHeartbeats 2000000
theorem fill : PySem.Challenge.rw_to0035_01 = PySem.Challenge.rw_to0035_01 ∧ K = K := by
  k_fill
  exact ⟨rfl, rfl⟩
local macro_rules | `(tactic| walk_at "eval Name") => `(tactic| (k_here; (with_reducible show wpAny _ _ (eval (PySem.Expr.Name (Str.ofString "signs") _) (envX _ lamS _ _ _ _)) _ _ _); k_dflt (refine' nameX_F (by k_asm) rfl (by k_mem) (by first | rfl | assumption) ?_ rfl rfl; k_whole)))
local macro_rules | `(tactic| walk_at "isTrue Compare") => `(tactic| (k_here; (with_reducible show wpAny _ _ (isTrue (PySem.Expr.Compare (PySem.Expr.Name _ _) [CmpOp.NotEq] [PySem.Expr.List [] _] _) _ _) _ _ _); k_dflt ((first | refine' isT_ne_nil0 ?F ?N ?m ?v ?o ?u ?x (by assumption) ?_ | refine' isT_ne_nil1 ?F ?N ?m ?v ?o ?u ?x (by assumption) ?_); (case F => k_asm); (case N => k_asm); (case m => k_mem); (case v => assumption); (case o => assumption); (case u => k_units); (case x => (intro Q' hq; refine' nameX_F (by k_asm) rfl (by k_mem) (by first | rfl | assumption) hq rfl rfl)); k_whole; intro h' F' N')))
local macro_rules | `(tactic| walk_at "call builtin:list.pop") => `(tactic| (k_here; (with_reducible show wpAny _ _ (call (Value.builtin _) [Value.ref _, Value.int 0 _]) _ _ _); k_dflt (refine' pop0 (by k_asm) (by k_asm) (by k_upd) (by assumption) ?_); kl_rest))
theorem read0 (w : World) (mean mg mb) (p : LP) (n : Int) (tn : Tok) (k : Nat) (C9 : HasCode) (P : p.Ok)
    (vs : List Value) (xs : List Str) (hv : SV vs xs) (ho : strsOk xs = true) (hXs : xs = []) :
    KCx w mean mg mb 35 (lexL w p n tn vs k) [.ref p.x] (fun v news => news = lexL w p n tn vs k ∧ ∃ t, v = .str (Str.ofString "") t) := by
  obtain ⟨hco, hoc, hoc1⟩ := P
  obtain ⟨hC9, C9⟩ := C9
  unfold KCx
  intros
  rename_i hret
  cell_enter
  k_steps
  all_goals exact hret _ _ _ _ ⟨rfl, _, rfl⟩ (by assumption) (by assumption) (gsub_end (by assumption) (by assumption))
theorem readN (w : World) (mean mg mb) (p : LP) (n : Int) (tn : Tok) (k : Nat) (C9 : HasCode) (P : p.Ok) (O : p.Far)
    (v0 : Value) (vs : List Value) (xs : List Str) (tc : Tok) (hv : SV (.str ⟨#[10]⟩ tc :: vs) xs) (ho : strsOk xs = true) (hz : (.str ⟨#[10]⟩ tc :: vs : List Value).length ≤ sizeLine) (hXs : xs ≠ []) :
    KCx w mean mg mb 35 (lexL w p n tn (.str ⟨#[10]⟩ tc :: vs) k) [.ref p.x] (fun v news => (∃ tn', news = lexL w p (n + 1) tn' vs (k + 1)) ∧ ∃ t, v = .str ⟨#[10]⟩ t) := by
  obtain ⟨hco, hoc, hoc1⟩ := P
  obtain ⟨hC9, C9⟩ := C9
  obtain ⟨o1, o2, o3, o4, o5, o6, o7, o8, o9, o10, o11⟩ := O
  unfold KCx
  intros
  rename_i hret
  cell_enter
  k_steps
  all_goals exact hret _ _ _ _ ⟨⟨_, rfl⟩, _, rfl⟩ (by assumption) (by assumption) (gsub_end (by assumption) (by assumption))
theorem read1 (w : World) (mean mg mb) (p : LP) (n : Int) (tn : Tok) (k : Nat) (C9 : HasCode) (P : p.Ok) (O : p.Far) (c : Nat) (hc : c ≠ 10)
    (v0 : Value) (vs : List Value) (xs : List Str) (tc : Tok) (hv : SV (.str ⟨#[c]⟩ tc :: vs) xs) (ho : strsOk xs = true) (hz : (.str ⟨#[c]⟩ tc :: vs : List Value).length ≤ sizeLine) (hXs : xs ≠ []) :
    KCx w mean mg mb 35 (lexL w p n tn (.str ⟨#[c]⟩ tc :: vs) k) [.ref p.x] (fun v news => news = lexL w p n tn vs (k + 1) ∧ ∃ t, v = .str ⟨#[c]⟩ t) := by
  obtain ⟨hco, hoc, hoc1⟩ := P
  obtain ⟨hC9, C9⟩ := C9
  obtain ⟨o1, o2, o3, o4, o5, o6, o7, o8, o9, o10, o11⟩ := O
  have hcc : ((⟨#[c]⟩ : Str) == Str.ofString "\n") = false := by
    rw [beq_eq_false_iff_ne]
    intro h
    have h2 : (#[c] : Array Nat) = #[10] := (congrArg Str.cps h).trans (by kernel_rfl)
    exact hc (by simpa using h2)
  unfold KCx
  intros
  rename_i hret
  cell_enter
  k_steps
  all_goals exact hret _ _ _ _ ⟨rfl, _, rfl⟩ (by assumption) (by assumption) (gsub_end (by assumption) (by assumption))
end
section
open PySem PySem.W PySem.Calls PyProof.Rows PySem.Spec
set_option maxHeartbeats 2000000
noncomputable def chs (cs : List Nat) : List Str := cs.map fun c => ⟨#[c]⟩
noncomputable def okCs (cs : List Nat) : Prop := ∀ c ∈ cs, c < 0x110000
theorem chs_ok {cs : List Nat} (h : okCs cs) : strsOk (chs cs) = true := by
  unfold strsOk chs
  rw [List.all_eq_true]
  intro x hx
  obtain ⟨c, hc, rfl⟩ := List.mem_map.mp hx
  have := h c hc
  simp [PyData.strOk, this]
noncomputable def headT : List Nat → Str
  | [] => Str.ofString ""
  | c :: _ => ⟨#[c]⟩
inductive LexAt (w : World) (p : LP) (T : Int) (cs : List Nat) (news : List (Addr × Obj)) : Prop
  | mk (n : Int) (tn : Tok) (vs : List Value) (k : Nat) (q0 : news = lexL w p n tn vs k) (q1 : SV vs (chs cs)) (q2 : n + (cs.count 10 : Nat) = T) : LexAt w p T cs news
theorem read_c (w : World) (mean mg mb) (p : LP) (T : Int) (cs : List Nat) (news : List (Addr × Obj)) (C9 : HasCode) (P : p.Ok) (O : p.Far) (hl : LexAt w p T cs news) (ho : okCs cs) (hz : cs.length ≤ sizeLine) :
    KCx w mean mg mb 35 news [.ref p.x] (fun v news' => LexAt w p T cs.tail news' ∧ ∃ t, v = .str (headT cs) t) := by
  obtain ⟨n, tn, vs, k, rfl, hv, hT⟩ := hl
  have hk : ∀ {Ok Ok' : Value → List (Addr × Obj) → Prop}, (∀ v l, Ok' v l → Ok v l) → KCx w mean mg mb 35 (lexL w p n tn vs k) [.ref p.x] Ok' → KCx w mean mg mb 35 (lexL w p n tn vs k) [.ref p.x] Ok := by
    intro Ok Ok' hi h dp un gd cn cs a ccd cl outer A₀ base h₀ L m s R B F X N T' hkn d1 d2 hret
    exact h dp un gd cn cs a ccd cl outer A₀ base h₀ L m s R B F X N T' hkn d1 d2 fun v' h' tk' news' ho => hret v' h' tk' news' (hi _ _ ho)
  cases cs with
  | nil =>
    refine hk ?_ (read0 w mean mg mb p n tn k C9 P vs [] hv rfl rfl)
    rintro v l ⟨rfl, t, rfl⟩
    exact ⟨⟨n, tn, vs, k, rfl, hv, hT⟩, t, rfl⟩
  | cons c r =>
    cases vs with
    | nil => exact hv.elim
    | cons v0 vs =>
      obtain ⟨⟨tc, rfl⟩, hr⟩ := id hv
      have hlen : (.str ⟨#[c]⟩ tc :: vs : List Value).length ≤ sizeLine := by
        have := hv.len
        simp only [chs, List.length_map, List.map_cons] at this
        rw [this]; simpa using hz
      by_cases hc : c = 10
      · subst hc
        refine hk ?_ (readN w mean mg mb p n tn k C9 P O .none vs _ tc hv (chs_ok ho) hlen (by simp [chs]))
        rintro v l ⟨⟨tn', rfl⟩, t, rfl⟩
        refine ⟨⟨n + 1, tn', vs, k + 1, rfl, hr, ?_⟩, t, rfl⟩
        rw [← hT]; simp; omega
      · refine hk ?_ (read1 w mean mg mb p n tn k C9 P O c hc .none vs _ tc hv (chs_ok ho) hlen (by simp [chs]))
        rintro v l ⟨rfl, t, rfl⟩
        refine ⟨⟨n, tn, vs, k + 1, rfl, hr, ?_⟩, t, rfl⟩
        rw [← hT]; simp [hc]
end
section
open PySem PySem.W PySem.Calls PyProof.Rows PySem.Spec
set_option maxHeartbeats 2000000
noncomputable def isWs (c : Nat) : Bool := c == 10 || c == 9 || c == 13 || c == 32
theorem wsT_cps : wsT.cps = #[10, 9, 13, 32] := by kernel_rfl
theorem subAt_ws {c : Nat} (h : isWs c = false) (i : Nat) : Builtin.Str.subAt wsT ⟨#[c]⟩ i = false := by
  unfold Builtin.Str.subAt
  rw [wsT_cps]
  simp only [isWs, Bool.or_eq_false_iff, beq_eq_false_iff_ne] at h
  obtain ⟨⟨⟨h1, h2⟩, h3⟩, h4⟩ := h
  have e : (⟨#[c]⟩ : Str).length = 1 := rfl
  rw [e, beq_eq_false_iff_ne]
  intro he
  match i, he with
  | 0, he => exact h1 (by simpa using he.symm)
  | 1, he => exact h2 (by simpa using he.symm)
  | 2, he => exact h3 (by simpa using he.symm)
  | 3, he => exact h4 (by simpa using he.symm)
  | i + 4, he =>
    have := congrArg Array.size he
    simp at this
theorem ws_occ (c : Nat) : (Builtin.Str.occurrences wsT ⟨#[c]⟩ 0 wsT.length 1).isEmpty = !isWs c := by
  by_cases h : isWs c = true
  · simp only [isWs, Bool.or_eq_true, beq_iff_eq] at h
    rcases h with ((rfl | rfl) | rfl) | rfl <;> decide +kernel
  · rw [Bool.not_eq_true] at h
    rw [h]
    unfold Builtin.Str.occurrences
    have hl : wsT.length = 4 := by kernel_rfl
    simp [subAt_ws h, hl]
    rfl
end
section
open PySem PySem.W PySem.Calls PyProof.Rows PySem.Spec
set_option maxHeartbeats 2000000
noncomputable abbrev ciObj (f s : Value) : Obj := { cls := .type "callable_iterator", data := .fields #[f, s, .bool false] }
noncomputable abbrev ciEnd : Obj := { cls := .type "callable_iterator", data := .fields #[.none, .none, .bool true] }
theorem ci_slot : Slot "callable_iterator" "__next__" "callable_iterator.__next__" :=
  .of (owner := "callable_iterator") (n := "__next__") (by rw [typeLookup_type, builtinLookup_eq_fast]; kernel_rfl) (by decide +kernel) (by decide +kernel) (by decide +kernel)
    (by first | exact .inl (by decide +kernel) | exact .inr (by decide +kernel)) (by rw [isSubtype_type]; kernel_rfl)
theorem ci_slot_it : Slot "callable_iterator" "__iter__" "callable_iterator.__iter__" :=
  .of (owner := "callable_iterator") (n := "__iter__") (by rw [typeLookup_type, builtinLookup_eq_fast]; kernel_rfl) (by decide +kernel) (by decide +kernel) (by decide +kernel)
    (by first | exact .inl (by decide +kernel) | exact .inr (by decide +kernel)) (by rw [isSubtype_type]; kernel_rfl)
theorem ci_entry_it : entryFor table "callable_iterator.__iter__" = some Builtin.«dict_keyiterator.__iter__» :=
  entryFor_alias (id' := "dict_keyiterator.__iter__") (by kernel_rfl) rfl (by decide +kernel) (by kernel_rfl)
theorem ci_args_it (a : Value) : argsOk "callable_iterator.__iter__" ⟨[a], []⟩ := by unfold argsOk; kernel_rfl
theorem ci_entry : entryFor table "callable_iterator.__next__" = some Builtin.«callable_iterator.__next__» := entryFor_of_tree (by kernel_rfl)
theorem ci_args (a : Value) : argsOk "callable_iterator.__next__" ⟨[a], []⟩ := by unfold argsOk; kernel_rfl
theorem meth_slot : Slot "method" "__call__" "method.__call__" :=
  .of (owner := "method") (n := "__call__") (by rw [typeLookup_type, builtinLookup_eq_fast]; kernel_rfl) (by decide +kernel) (by decide +kernel) (by decide +kernel)
    (by first | exact .inl (by decide +kernel) | exact .inr (by decide +kernel)) (by rw [isSubtype_type]; kernel_rfl)
theorem iter_entry : entryFor table "iter" = some Builtin.«iter» := entryFor_of_fast (by kernel_rfl)
theorem iter_args (a b : Value) : argsOk "iter" ⟨[a, b], []⟩ := by unfold argsOk; kernel_rfl
theorem callBorrowed_is (f : Value) : callBorrowed f [] = (call f [] []).keep [borrowed] := by
  unfold callBorrowed call runValue run
  show _ = Sem.call _ _ _ _ (fun x => Sem.keep [borrowed] (Sem.bind (match x with | .ok f => .pure f | .error e => .raise e) _))
  congr 1
  funext x
  cases x with
  | error e => rfl
  | ok f => cases f <;> rfl
theorem wpAny_callBorrowed {M : Model} {A : Around} {E : Value → Shared → Prop} {s : Shared} {f : Value} {Q : Value → Shared → Prop} (h : wpAny M A (call f [] []) Q E s) : wpAny M A (callBorrowed f []) Q E s := by
  rw [callBorrowed_is]; exact wpAny_keep h
section
variable {prog : Program} {w : World} {A : Around} {E : Value → Shared → Prop} {s : Shared} {h₀ : Heap} {L : Addr} {m : Str → Option Value} {news : List (Addr × Obj)} {q I : Addr} {f : Addr} {x : Value} {t : Str} {tk : Tok}
theorem iter2 {Q : Value → Shared → Prop} (F : Fr h₀ L s.heap m) (N : News h₀ L s.heap news) (hm : (q, methodObj (.ref f) x) ∈ news)
    (h : ∀ I h', Fr h₀ L h' m → News h₀ L h' ((I, ciObj (.ref q) (.str t tk)) :: news) → (∀ p ∈ news, p.1 < I) → Q (.ref I) { s with heap := h' }) :
    wpAny (model prog w) A (call (.builtin "iter") [.ref q, .str t tk]) Q E s := by
  refine call_function_entry (by decide +kernel) (by decide +kernel) iter_entry (iter_args _ _) ?_
  unfold Builtin.«iter»
  refine wpAny_bind (m := someArgs "iter" 1 2 _) (wpAny_of_eq (a := [Value.ref q, Value.str t tk]) (by first | rfl | kernel_rfl!) ?_)
  dsimp only
  refine wpAny_bind (wpAny_specialOf (name := Str.ofString "__call__") ⟨_, (N _ hm).1, rfl⟩ meth_slot.lookup ?_)
  refine wpAny_ite_split (fun hab => absurd hab (by decide)) (fun _ => ?_)
  refine wpAny_bind (wpAny_rule (wpAny_bind ?_))
  unfold newFields
  refine wpAny_newObj_type ?_ (by size_fits)
  exact wpAny_pure ⟨_, rfl, h _ _ (F.push _) (N.push F _) (fun p hp => Heap.lt_size (N p hp).1)⟩
theorem borrows_method {Q : Bool → Shared → Prop} {o : Obj} {fd : FuncData} (hq : s.heap.get? q = some (methodObj (.ref f) x)) (hf : s.heap.get? f = some o) (hd : o.data = .func fd) (h : Q true s) : wpAny (model prog w) A (borrowsExactly (.ref q)) Q E s := by
  unfold borrowsExactly
  show wpAny _ _ (load q >>= _) _ _ _
  refine wpAny_bind (wpAny_load hq ?_)
  show wpAny _ _ (load f >>= _) _ _ _
  refine wpAny_bind (wpAny_load hf ?_)
  rw [hd]
  exact wpAny_pure h
theorem pyIter_ci {Q : Value → Shared → Prop} {f' s' : Value} (hI : s.heap.get? I = some (ciObj f' s')) (h : Q (.ref I) s) : wpAny (model prog w) A (pyIter (.ref I)) Q E s := by
  refine wpAny_pyIter_slot ⟨_, hI, rfl⟩ ci_slot_it (wpAny_call_entry ci_slot_it ⟨_, hI, rfl⟩ ci_entry_it ?_ (ci_args_it _))
  show wpAny _ _ (ret (.ref I)) _ _ s
  exact wpAny_pure ⟨_, rfl, "callable_iterator", _, ⟨_, hI, rfl⟩, ci_slot.lookup, h⟩
theorem pyIter_ce {Q : Value → Shared → Prop} (hI : s.heap.get? I = some ciEnd) (h : Q (.ref I) s) : wpAny (model prog w) A (pyIter (.ref I)) Q E s := by
  refine wpAny_pyIter_slot ⟨_, hI, rfl⟩ ci_slot_it (wpAny_call_entry ci_slot_it ⟨_, hI, rfl⟩ ci_entry_it ?_ (ci_args_it _))
  show wpAny _ _ (ret (.ref I)) _ _ s
  exact wpAny_pure ⟨_, rfl, "callable_iterator", _, ⟨_, hI, rfl⟩, ci_slot.lookup, h⟩
theorem ce_next {Q : Option Value → Shared → Prop} (hh : A.handled = none) (hI : s.heap.get? I = some ciEnd) (h : ∀ h', (∀ b o, s.heap.get? b = some o → h'.get? b = some o) → Q none { s with heap := h' }) :
    wpAny (model prog w) A (pyNext (.ref I)) Q E s := by
  unfold pyNext
  refine wpAny_bind (wpAny_attempt (wpAny_callSpecial?_slot (name := Str.ofString "__next__") ⟨_, hI, rfl⟩ ci_slot
    (wpAny_call_entry ci_slot ⟨_, hI, rfl⟩ ci_entry ?_ (ci_args _))))
  show wpAny _ _ (field (.ref I) 2 >>= _) _ _ s
  refine wpAny_bind (wpAny_field hI rfl (x := .bool true) rfl ?_)
  show wpAny _ _ (if (Value.bool true == Value.bool true) = true then _ else _) _ _ s
  rw [if_pos (by rfl)]
  refine wpAny_bind (wpAny_rule (wpAny_bind ?_))
  show wpAny _ _ (newExc (.type "StopIteration") [] >>= _) _ _ _
  refine wpAny_bind ?_
  simp only [newExc, newTuple]
  refine wpAny_bind (wpAny_newObj_type ?_ (by size_fits))
  refine wpAny_bind (m := firstArgMember _ _) (wpAny_of_eq (a := Value.none) (by first | rfl | (simp only [firstArgMember]; rfl)) ?_)
  refine wpAny_newObj_type ?_ (by size_fits)
  simp only [raiseNew]
  refine wpAny_bind (wpAny_handled ?_)
  rw [show A.in1.handled = none from hh]
  refine wpAny_bind (wpAny_pure (wpAny_throw ?_))
  refine wpAny_bind (wpAny_isInstance (T := "StopIteration") (b := true) ⟨_, Heap.get?_push_size _ rfl, rfl⟩ isSubtype_stop ?_)
  exact wpAny_pure (h _ fun b o e => Heap.get?_push_of_some _ (Heap.get?_push_of_some _ e))
theorem ci_next {Q : Option Value → Shared → Prop} {o : Obj} {fd : FuncData} (hh : A.handled = none)
    (hI : s.heap.get? I = some (ciObj (.ref q) (.str t tk))) (hq : s.heap.get? q = some (methodObj (.ref f) x)) (hf : s.heap.get? f = some o) (hd : o.data = .func fd)
    (h : ∀ R : Result → Shared → Prop, (∀ u tu s₁, s₁.heap.get? I = some (ciObj (.ref q) (.str t tk)) → s₁.heap.get? q = some (methodObj (.ref f) x) → s₁.heap.get? f = some o →
      (t ≠ u → Q (some (.str u tu)) s₁) → (t = u → ∀ h', (∀ b o, b ≠ I → s₁.heap.get? b = some o → h'.get? b = some o) → h'.get? I = some ciEnd → Q none { s₁ with heap := h' }) → R (.ok (.ret (.str u tu))) s₁) → codeAny (model prog w) A.in1 (.call (.ref f) ⟨[x], []⟩) R s) :
    wpAny (model prog w) A (pyNext (.ref I)) Q E s := by
  unfold pyNext
  refine wpAny_bind (wpAny_attempt (wpAny_callSpecial?_slot (name := Str.ofString "__next__") ⟨_, hI, rfl⟩ ci_slot
    (wpAny_call_entry ci_slot ⟨_, hI, rfl⟩ ci_entry ?_ (ci_args _))))
  show wpAny _ _ (field (.ref I) 2 >>= _) _ _ s
  refine wpAny_bind (wpAny_field hI rfl (x := .bool false) rfl ?_)
  show wpAny _ _ (if (Value.bool false == Value.bool true) = true then _ else _) _ _ s
  rw [if_neg (show ¬ ((Value.bool false == Value.bool true) = true) from Bool.false_ne_true)]
  show wpAny _ _ (field (.ref I) 0 >>= _) _ _ s
  refine wpAny_bind (wpAny_field hI rfl (x := .ref q) rfl ?_)
  show wpAny _ _ ((callOutOfASlot (.ref q)).attempt >>= _) _ _ s
  refine wpAny_bind (wpAny_attempt ?_)
  unfold callOutOfASlot
  refine wpAny_bind (borrows_method hq hf hd ?_)
  rw [if_pos rfl]
  refine wpAny_callBorrowed ?_
  refine wpAny_call (ks_codeAny_call_bound hq ?_)
  refine h _ ?_
  intro u tu s₁ hI1 hq1 hf1 hne heq
  show wpAny _ _ (field (.ref I) 2 >>= _) _ _ _
  refine wpAny_bind (wpAny_field hI1 rfl (x := .bool false) rfl ?_)
  show wpAny _ _ (if (Value.bool false == Value.bool true) = true then _ else _) _ _ _
  rw [if_neg (show ¬ ((Value.bool false == Value.bool true) = true) from Bool.false_ne_true)]
  show wpAny _ _ (field (.ref I) 1 >>= _) _ _ _
  refine wpAny_bind (wpAny_field hI1 rfl (x := .str t tk) rfl ?_)
  refine wpAny_bind (wpAny_holding (wpAny_eqBool_str ?_))
  by_cases htu : t = u
  · rw [decide_eq_true htu]
    show wpAny _ _ (rule _ >>= _) _ _ _
    refine wpAny_bind (wpAny_rule ?_)
    refine wpAny_bind ?_
    show wpAny _ _ (field (.ref I) 0 >>= _) _ _ _
    refine wpAny_bind (wpAny_field hI1 rfl (x := .ref q) rfl ?_)
    refine wpAny_bind ?_
    unfold slotLetsGo
    show wpAny _ _ (borrowsExactly (.ref q) >>= _) _ _ _
    refine wpAny_bind (borrows_method hq1 hf1 hd ?_)
    show wpAny _ _ (pure ()) _ _ _
    refine wpAny_pure ?_
    refine wpAny_bind (wpAny_setField hI1 rfl (by simp) ?_)
    have e1 : (s₁.heap.update I (Obj.mapFields fun x => x.setIfInBounds 0 Value.none)).get? I = some { cls := .type "callable_iterator", data := .fields #[.none, .str t tk, .bool false] } := Heap.get?_update_self _ hI1 rfl
    refine wpAny_bind (wpAny_setField (s := ⟨_, _, _, _, _⟩) e1 rfl (by simp) ?_)
    have e2 := Heap.get?_update_self (Obj.mapFields fun x => x.setIfInBounds 1 Value.none) e1 rfl
    refine wpAny_setField (s := ⟨_, _, _, _, _⟩) e2 rfl (by simp [Obj.mapFields]) ?_
    show wpAny _ _ (newExc (.type "StopIteration") [] >>= _) _ _ _
    refine wpAny_bind ?_
    simp only [newExc, newTuple]
    refine wpAny_bind (wpAny_newObj_type ?_ (by size_fits))
    refine wpAny_bind (m := firstArgMember _ _) (wpAny_of_eq (a := Value.none) (by first | rfl | (simp only [firstArgMember]; rfl)) ?_)
    refine wpAny_newObj_type ?_ (by size_fits)
    simp only [raiseNew]
    refine wpAny_bind (wpAny_handled ?_)
    rw [show A.in1.handled = none from hh]
    refine wpAny_bind (wpAny_pure (wpAny_throw ?_))
    refine wpAny_bind (wpAny_isInstance (T := "StopIteration") (b := true) ⟨_, Heap.get?_push_size _ rfl, rfl⟩ isSubtype_stop ?_)
    exact wpAny_pure (heq htu _ (fun b o hb e => Heap.get?_push_of_some _ (Heap.get?_push_of_some _ ((Heap.SameBut.update ..).extBut b o hb ((Heap.SameBut.update ..).extBut b o hb ((Heap.SameBut.update ..).extBut b o hb e)))))
      (Heap.get?_push_of_some _ (Heap.get?_push_of_some _ (Heap.get?_update_self (Obj.mapFields fun x => x.setIfInBounds 2 (Value.bool true)) e2 rfl))))
  · rw [decide_eq_false htu]
    show wpAny _ _ (ret _) _ _ _
    exact wpAny_pure ⟨_, rfl, wpAny_pure (hne htu)⟩
end
end
section
open PySem PySem.W PySem.Calls PyProof.Rows PySem.Spec
set_option maxHeartbeats 2000000
theorem fill2 : PySem.Challenge.rw_to0035_01 = PySem.Challenge.rw_to0035_01 ∧ K = K := by
  k_fill
  exact ⟨rfl, rfl⟩
noncomputable abbrev outB : List Stmt := unw (x := [_, _]) (y := (match bodGet with | [_, _, _, .For _ _ b _ _, _] => b | _ => default)) (.refl _)
noncomputable abbrev quotB : List Stmt := unw (x := [_, _]) (y := (match outB with | [_, .If _ [.For _ _ b _ _] _ _] => b | _ => default)) (.refl _)
noncomputable abbrev bareB : List Stmt := unw (x := [_, _]) (y := (match outB with | [_, .If _ _ [_, _, .For _ _ b _ _] _] => b | _ => default)) (.refl _)
noncomputable abbrev genv (L : Addr) : Env := envOf (Str.ofString "_netrclex.get_token") scoGet L 42 (.ref 41)
noncomputable def mOf (p : LP) (I : Addr) (ch : Option Value) (tok : Value) : Str → Option Value := fun y =>
  if y = Str.ofString "ch" then ch else if y = Str.ofString "token" then some tok else if y = Str.ofString "fiter" then some (.ref I) else if y = Str.ofString "self" then some (.ref p.x) else none
noncomputable def LP.adrs (p : LP) : List Addr := [p.x, p.d, p.y, p.dy, p.f, p.c, p.cc, p.sl]
theorem LexAt.adr {w : World} {p : LP} {T : Int} {cs : List Nat} {lx : List (Addr × Obj)} (h : LexAt w p T cs lx) : lx.map (·.1) = p.adrs := by
  obtain ⟨n, tn, vs, k, rfl, _, _⟩ := h
  rfl
theorem read_use {w : World} {mean : ExcName → Option Value} {mg mb : Str → Option Value} {p : LP} {T : Int} {cs : List Nat} {lx : List (Addr × Obj)} (C9 : HasCode) (P : p.Ok) (O : p.Far) (hl : LexAt w p T cs lx) (ho : okCs cs) (hz : cs.length ≤ sizeLine)
    {dp un : Nat} {gd : Option (List Code)} {cn : Str} {cs' : Scope} {a : Addr} {ccd : Value} {cl : List (Str × Addr)} {outer : List Env} {A₀ : Around} {base h₀ : Heap} {L : Addr} {m : Str → Option Value} {s : Shared} {Q E : Value → Shared → Prop} {e1 e2 e3 : Addr × Obj}
    (B : Below A₀ base outer h₀) (F : Fr h₀ L s.heap m) (X : (K w.params).In h₀) (N : News h₀ L s.heap (e1 :: e2 :: e3 :: lx)) (Tp : Top tq lz mean mg mb h₀) (hk : cs'.kind = .function) (f1 : e1.1 ∉ p.adrs) (f2 : e2.1 ∉ p.adrs) (f3 : e3.1 ∉ p.adrs)
    (hd : dp + 20 < recursionLimit) (hu : un + 200 < cLine)
    (h : ∀ h' tk' lx' t, LexAt w p T cs.tail lx' → Fr h₀ L h' m → News h₀ L h' (e1 :: e2 :: e3 :: lx') → Q (.str (headT cs) t) { s with heap := h', toks := tk' }) :
    wpAny (model pw w) (ktrTop dp un gd cn cs' L a ccd cl outer) (call (.ref 35) [.ref p.x]) Q E s := by
  refine wpAny_call (read_c w mean mg mb p T cs lx C9 P O hl ho hz dp un gd cn cs' a ccd cl outer A₀ base h₀ L m s _ B F X (fun q hq => N q (.tail _ (.tail _ (.tail _ hq)))) Tp hk hd hu ?_)
  rintro v h' tk' lx' ⟨hl', t, rfl⟩ F' N' G
  refine h h' tk' lx' t hl' F' ?_
  rw [hl.adr] at G
  intro q hq
  rcases List.mem_cons.mp hq with rfl | hq
  · exact ⟨G _ _ (N _ (.head _)).1 f1, (N _ (.head _)).2⟩
  rcases List.mem_cons.mp hq with rfl | hq
  · exact ⟨G _ _ (N _ (.tail _ (.head _))).1 f2, (N _ (.tail _ (.head _))).2⟩
  rcases List.mem_cons.mp hq with rfl | hq
  · exact ⟨G _ _ (N _ (.tail _ (.tail _ (.head _)))).1 f3, (N _ (.tail _ (.tail _ (.head _)))).2⟩
  exact N' q hq
local macro_rules | `(tactic| walk_at "call ref") => `(tactic| (k_here; k_dflt (refine' read_use (by assumption) (by assumption) (by assumption) (by assumption) (by assumption) (by assumption) (by k_asm) (by k_asm) (by k_asm) (by k_asm) (by k_asm) rfl (by assumption) (by assumption) (by assumption) (by k_room) (by k_units) ?_; k_whole); intro h' tk' lx' t' hl' F' N'))
local macro_rules | `(tactic| walk_at "inplaceOp Add str str") => `(tactic| ((refine SBL.iadd (hsz := ?hsz) ?_); (case hsz => assumption); intro _ _ _))
theorem ws_no {c : Nat} (h : (Builtin.Str.occurrences wsT ⟨#[c]⟩ 0 wsT.length 1).isEmpty = true) : isWs c = false := by rw [ws_occ] at h; simpa using h
theorem ws_yes {c : Nat} (h : (Builtin.Str.occurrences wsT ⟨#[c]⟩ 0 wsT.length 1).isEmpty = false) : isWs c = true := by rw [ws_occ] at h; simpa using h
theorem bs_is : Str.ofString "\\" = ⟨#[92]⟩ := by kernel_rfl
theorem dq_is : Str.ofString "\"" = ⟨#[34]⟩ := by kernel_rfl
theorem ne92 {c : Nat} (h : ((⟨#[c]⟩ : Str) == Str.ofString "\\") = false) : c ≠ 92 := by
  rintro rfl
  rw [beq_eq_false_iff_ne] at h
  exact h bs_is.symm
theorem is92 {c : Nat} (h : ((⟨#[c]⟩ : Str) == Str.ofString "\\") = true) : c = 92 := by
  have h1 := congrArg Str.cps (eq_of_beq h)
  rw [bs_is] at h1
  simpa using h1
theorem ne34 {c : Nat} (h : ((⟨#[c]⟩ : Str) == Str.ofString "\"") = false) : c ≠ 34 := by
  rintro rfl
  rw [beq_eq_false_iff_ne] at h
  exact h dq_is.symm
theorem is34 {c : Nat} (h : ((⟨#[c]⟩ : Str) == Str.ofString "\"") = true) : c = 34 := by
  have h1 := congrArg Str.cps (eq_of_beq h)
  rw [dq_is] at h1
  simpa using h1
theorem fr_tok {g h : Heap} {L I : Addr} {p : LP} {ch : Option Value} {t v : Value} (F : Fr g L h (fun y => if y = Str.ofString "token" then some v else mOf p I ch t y)) : Fr g L h (mOf p I ch v) := by
  have e : (fun y => if y = Str.ofString "token" then some v else mOf p I ch t y) = mOf p I ch v := by
    funext y
    unfold mOf
    have : Str.ofString "token" ≠ Str.ofString "ch" := by decide +kernel
    by_cases h1 : y = Str.ofString "token"
    · subst h1; simp [this]
    · simp [h1]
  rw [← e]; exact F
theorem fr_ch {g h : Heap} {L I : Addr} {p : LP} {ch : Option Value} {t v : Value} (F : Fr g L h (fun y => if y = Str.ofString "ch" then some v else mOf p I ch t y)) : Fr g L h (mOf p I (some v) t) := by
  have e : (fun y => if y = Str.ofString "ch" then some v else mOf p I ch t y) = mOf p I (some v) t := by
    funext y
    unfold mOf
    by_cases h1 : y = Str.ofString "ch"
    · subst h1; simp
    · simp [h1]
  rw [← e]; exact F
theorem fr_tok_ch {g h : Heap} {L I : Addr} {p : LP} {ch : Option Value} {t v u : Value} (F : Fr g L h (fun y => if y = Str.ofString "token" then some v else if y = Str.ofString "ch" then some u else mOf p I ch t y)) : Fr g L h (mOf p I (some u) v) := by
  have e : (fun y => if y = Str.ofString "token" then some v else if y = Str.ofString "ch" then some u else mOf p I ch t y) = mOf p I (some u) v := by
    funext y
    unfold mOf
    have : Str.ofString "token" ≠ Str.ofString "ch" := by decide +kernel
    by_cases h1 : y = Str.ofString "token"
    · subst h1; simp [this]
    · simp only [h1, if_false]
      by_cases h2 : y = Str.ofString "ch" <;> simp [h2]
  rw [← e]; exact F
structure GX (w : World) (mean : ExcName → Option Value) (mg mb : Str → Option Value) (p : LP) (I q : Addr) (dp un : Nat) (outer : List Env) (A₀ : Around) (base g : Heap) : Prop where
  C9 : HasCode
  P : p.Ok
  O : p.Far
  B : Below A₀ base outer g
  X : (K w.params).In g
  T : Top tq lz mean mg mb g
  hd : dp + 21 < recursionLimit
  hu : un + 201 < cLine
  f1 : I ∉ p.adrs
  f2 : q ∉ p.adrs
  f3 : p.pl ∉ p.adrs
  f4 : I ≠ q
  f5 : I ≠ p.pl
theorem bare_turn {w : World} {mean : ExcName → Option Value} {mg mb : Str → Option Value} {p : LP} {I q : Addr} {dp un : Nat} {outer : List Env} {A₀ : Around} {base g : Heap} (G : GX w mean mg mb p I q dp un outer A₀ base g)
    {T : Int} {gd : Option (List Code)} {L : Addr} {k2 : Nat} {s : Shared} {lx : List (Addr × Obj)} {c : Nat} {cs : List Nat} {acc : Str} {tc t : Tok} (oI oq : Obj) (hl : LexAt w p T cs lx) (ho : okCs cs) (hz : cs.length ≤ sizeLine) (hs1 : acc.length + (⟨#[c]⟩ : Str).length ≤ sizeLine) (hs2 : acc.length + (headT cs).length ≤ sizeLine)
    (F : Fr g L s.heap (mOf p I (some (.str ⟨#[c]⟩ tc)) (.str acc t))) (N : News g L s.heap ((I, oI) :: (q, oq) :: (p.pl, PySem.W.listOf #[] k2) :: lx)) (Q : Flow → Shared → Prop) (E : Value → Shared → Prop)
    (h1 : isWs c = true → ∀ h' tk' lx', LexAt w p T cs lx' → Fr g L h' (mOf p I (some (.str ⟨#[c]⟩ tc)) (.str acc t)) → News g L h' ((I, oI) :: (q, oq) :: (p.pl, PySem.W.listOf #[] k2) :: lx') → Q (.ret (.str acc t)) { s with heap := h', toks := tk' })
    (h2 : isWs c = false → c ≠ 92 → ∀ h' tk' lx' t', LexAt w p T cs lx' → Fr g L h' (mOf p I (some (.str ⟨#[c]⟩ tc)) (.str (acc ++ ⟨#[c]⟩) t')) → News g L h' ((I, oI) :: (q, oq) :: (p.pl, PySem.W.listOf #[] k2) :: lx') → Q .next { s with heap := h', toks := tk' })
    (h3 : c = 92 → ∀ h' tk' lx' t' tc', LexAt w p T cs.tail lx' → Fr g L h' (mOf p I (some (.str (headT cs) tc')) (.str (acc ++ headT cs) t')) → News g L h' ((I, oI) :: (q, oq) :: (p.pl, PySem.W.listOf #[] k2) :: lx') → Q .next { s with heap := h', toks := tk' }) :
    wpAny (model pw w) (ktrTop dp un gd (Str.ofString "_netrclex.get_token") scoGet L 42 (.ref 41) [] outer) (execs bareB (genv L)) Q E s := by
  obtain ⟨C9, P, O, B, X, Tp, hd, hu, f1, f2, f3, f4, f5⟩ := G
  have O' := O
  obtain ⟨o1, o2, o3, o4, o5, o6, o7, o8, o9, o10, o11⟩ := O
  obtain ⟨n, tn, vs, k, rfl, hv, hT⟩ := id hl
  dsimp only [bareB, unw]
  k_steps
  all_goals first
    | exact h1 (ws_yes (by assumption)) _ _ _ hl (by assumption) (by assumption)
    | exact h2 (ws_no (by assumption)) (ne92 (by assumption)) _ _ _ _ hl (fr_tok (by assumption)) (by assumption)
    | exact h3 (is92 (by assumption)) _ _ _ _ _ (by assumption) (fr_tok_ch (by assumption)) (by assumption)
theorem quot_turn {w : World} {mean : ExcName → Option Value} {mg mb : Str → Option Value} {p : LP} {I q : Addr} {dp un : Nat} {outer : List Env} {A₀ : Around} {base g : Heap} (G : GX w mean mg mb p I q dp un outer A₀ base g)
    {T : Int} {gd : Option (List Code)} {L : Addr} {k2 : Nat} {s : Shared} {lx : List (Addr × Obj)} {c : Nat} {cs : List Nat} {acc : Str} {tc t : Tok} (oI oq : Obj) (hl : LexAt w p T cs lx) (ho : okCs cs) (hz : cs.length ≤ sizeLine) (hs1 : acc.length + (⟨#[c]⟩ : Str).length ≤ sizeLine) (hs2 : acc.length + (headT cs).length ≤ sizeLine)
    (F : Fr g L s.heap (mOf p I (some (.str ⟨#[c]⟩ tc)) (.str acc t))) (N : News g L s.heap ((I, oI) :: (q, oq) :: (p.pl, PySem.W.listOf #[] k2) :: lx)) (Q : Flow → Shared → Prop) (E : Value → Shared → Prop)
    (h1 : c = 34 → ∀ h' tk' lx', LexAt w p T cs lx' → Fr g L h' (mOf p I (some (.str ⟨#[c]⟩ tc)) (.str acc t)) → News g L h' ((I, oI) :: (q, oq) :: (p.pl, PySem.W.listOf #[] k2) :: lx') → Q (.ret (.str acc t)) { s with heap := h', toks := tk' })
    (h2 : c ≠ 34 → c ≠ 92 → ∀ h' tk' lx' t', LexAt w p T cs lx' → Fr g L h' (mOf p I (some (.str ⟨#[c]⟩ tc)) (.str (acc ++ ⟨#[c]⟩) t')) → News g L h' ((I, oI) :: (q, oq) :: (p.pl, PySem.W.listOf #[] k2) :: lx') → Q .next { s with heap := h', toks := tk' })
    (h3 : c ≠ 34 → c = 92 → ∀ h' tk' lx' t' tc', LexAt w p T cs.tail lx' → Fr g L h' (mOf p I (some (.str (headT cs) tc')) (.str (acc ++ headT cs) t')) → News g L h' ((I, oI) :: (q, oq) :: (p.pl, PySem.W.listOf #[] k2) :: lx') → Q .next { s with heap := h', toks := tk' }) :
    wpAny (model pw w) (ktrTop dp un gd (Str.ofString "_netrclex.get_token") scoGet L 42 (.ref 41) [] outer) (execs quotB (genv L)) Q E s := by
  obtain ⟨C9, P, O, B, X, Tp, hd, hu, f1, f2, f3, f4, f5⟩ := G
  have O' := O
  obtain ⟨o1, o2, o3, o4, o5, o6, o7, o8, o9, o10, o11⟩ := O
  obtain ⟨n, tn, vs, k, rfl, hv, hT⟩ := id hl
  dsimp only [quotB, unw]
  k_steps
  all_goals first
    | exact h1 (is34 (by assumption)) _ _ _ hl (by assumption) (by assumption)
    | exact h2 (ne34 (by assumption)) (ne92 (by assumption)) _ _ _ _ hl (fr_tok (by assumption)) (by assumption)
    | exact h3 (ne34 (by assumption)) (is92 (by assumption)) _ _ _ _ _ (by assumption) (fr_tok_ch (by assumption)) (by assumption)
end
section
open PySem PySem.W PySem.Calls PyProof.Rows PySem.Spec
set_option maxHeartbeats 2000000
local macro_rules | `(tactic| kpc_none) => `(tactic| grind)
noncomputable def scan (stop : Nat → Bool) : Str → List Nat → Str × List Nat × Bool
  | acc, [] => (acc, [], true)
  | acc, [c] => if stop c then (acc, [], false) else if c = 92 then (acc, [], true) else (acc ++ ⟨#[c]⟩, [], true)
  | acc, c :: d :: r => if stop c then (acc, d :: r, false) else if c = 92 then scan stop (acc ++ ⟨#[d]⟩) r else scan stop (acc ++ ⟨#[c]⟩) (d :: r)
theorem app_empty (x : Str) : x ++ headT [] = x := by
  have : headT [] = ⟨#[]⟩ := by kernel_rfl
  rw [this]
  show (⟨x.cps ++ #[]⟩ : Str) = x
  simp
theorem scan_stop {stop : Nat → Bool} {acc : Str} {c : Nat} {r : List Nat} (h : stop c = true) : scan stop acc (c :: r) = (acc, r, false) := by
  cases r <;> simp [scan, h]
theorem scan_bs {stop : Nat → Bool} {acc : Str} {r : List Nat} (h : stop 92 = false) : scan stop acc (92 :: r) = scan stop (acc ++ headT r) r.tail := by
  cases r with
  | nil => simp [scan, h, app_empty]
  | cons d r => simp [scan, h, headT]
theorem scan_ch {stop : Nat → Bool} {acc : Str} {c : Nat} {r : List Nat} (h : stop c = false) (hc : c ≠ 92) : scan stop acc (c :: r) = scan stop (acc ++ ⟨#[c]⟩) r := by
  cases r <;> simp [scan, h, hc]
theorem len_app (x y : Str) : (x ++ y).length = x.length + y.length := by
  show (x.cps ++ y.cps).size = x.cps.size + y.cps.size
  simp
theorem len_one (c : Nat) : (⟨#[c]⟩ : Str).length = 1 := rfl
theorem len_head (r : List Nat) : (headT r).length + r.tail.length = r.length := by
  cases r with
  | nil => show (headT []).length + 0 = 0; have : headT [] = ⟨#[]⟩ := by kernel_rfl
           rw [this]; rfl
  | cons d r => simp [headT, len_one]; omega
theorem func35 (P : Params) : ∃ o fd, (K P).lookup 35 = some o ∧ o.data = .func fd := ⟨_, _, rfl, rfl⟩
theorem head_ne (c : Nat) : Str.ofString "" ≠ ⟨#[c]⟩ := by
  intro h
  have h2 : Str.ofString "" = ⟨#[]⟩ := by kernel_rfl
  rw [h2] at h
  simpa using congrArg Str.cps h
noncomputable abbrev hd3 (p : LP) (I q : Addr) (tk : Tok) (k2 : Nat) (lx : List (Addr × Obj)) : List (Addr × Obj) := (I, ciObj (.ref q) (.str (Str.ofString "") tk)) :: (q, methodObj (.ref 35) (.ref p.x)) :: (p.pl, PySem.W.listOf #[] k2) :: lx
noncomputable abbrev hd3e (p : LP) (I q : Addr) (k2 : Nat) (lx : List (Addr × Obj)) : List (Addr × Obj) := (I, ciEnd) :: (q, methodObj (.ref 35) (.ref p.x)) :: (p.pl, PySem.W.listOf #[] k2) :: lx
noncomputable abbrev gA (dp un : Nat) (gd : Option (List Code)) (L : Addr) (outer : List Env) : Around := ktrTop dp un gd (Str.ofString "_netrclex.get_token") scoGet L 42 (.ref 41) [] outer
theorem gt_next {w : World} {mean : ExcName → Option Value} {mg mb : Str → Option Value} {p : LP} {I q : Addr} {dp un : Nat} {outer : List Env} {A₀ : Around} {base g : Heap} (G : GX w mean mg mb p I q dp un outer A₀ base g)
    {T : Int} {gd : Option (List Code)} {L : Addr} {k2 : Nat} {tk : Tok} {s : Shared} {lx : List (Addr × Obj)} {cs : List Nat} {m : Str → Option Value} (hl : LexAt w p T cs lx) (ho : okCs cs) (hz : cs.length ≤ sizeLine)
    (F : Fr g L s.heap m) (N : News g L s.heap (hd3 p I q tk k2 lx)) (Q : Option Value → Shared → Prop) (E : Value → Shared → Prop)
    (h0 : cs = [] → ∀ h' tk' lx', LexAt w p T [] lx' → Fr g L h' m → News g L h' (hd3e p I q k2 lx') → Q none { s with heap := h', toks := tk' })
    (h1 : ∀ c r, cs = c :: r → ∀ h' tk' lx' tc, LexAt w p T r lx' → Fr g L h' m → News g L h' (hd3 p I q tk k2 lx') → Q (some (.str ⟨#[c]⟩ tc)) { s with heap := h', toks := tk' }) :
    wpAny (model pw w) (gA dp un gd L outer) (pyNext (.ref I)) Q E s := by
  obtain ⟨C9, P, O, B, X, Tp, hd, hu, f1, f2, f3, f4, f5⟩ := G
  obtain ⟨o, fd, ho35, hdat⟩ := func35 w.params
  have hI := (N _ (.head _)).1
  have hq := (N _ (.tail _ (.head _))).1
  refine ci_next (hh := rfl) hI hq ((X.keeps F.keep) _ _ ho35) hdat fun R hR => ?_
  refine read_c w mean mg mb p T cs lx C9 P O hl ho hz dp (un + 1) gd _ scoGet 42 (.ref 41) [] outer A₀ base g L m s R B F X (fun x hx => N x (.tail _ (.tail _ (.tail _ hx)))) Tp rfl (by omega) (by omega) ?_
  rintro v h' tk' lx' ⟨hl', t, rfl⟩ F' N' GS
  rw [hl.adr] at GS
  have hI' := GS _ _ hI f1
  have hq' := GS _ _ hq f2
  have hp' := GS _ _ (N _ (.tail _ (.tail _ (.head _)))).1 f3
  have NN : ∀ {h''} {oI}, (∀ b o, b ≠ I → h'.get? b = some o → h''.get? b = some o) → h''.get? I = some oI → (∀ x ∈ lx', x.1 ≠ I) → News g L h'' ((I, oI) :: (q, methodObj (.ref 35) (.ref p.x)) :: (p.pl, PySem.W.listOf #[] k2) :: lx') := by
    intro h'' oI hk hoI hne x hx
    rcases List.mem_cons.mp hx with rfl | hx
    · exact ⟨hoI, (N _ (.head _)).2⟩
    rcases List.mem_cons.mp hx with rfl | hx
    · exact ⟨hk _ _ (Ne.symm f4) hq', (N _ (.tail _ (.head _))).2⟩
    rcases List.mem_cons.mp hx with rfl | hx
    · exact ⟨hk _ _ (Ne.symm f5) hp', (N _ (.tail _ (.tail _ (.head _)))).2⟩
    exact ⟨hk _ _ (hne x hx) (N' x hx).1, (N' x hx).2⟩
  have hne : ∀ x ∈ lx', x.1 ≠ I := by
    intro x hx e
    apply f1
    rw [← hl'.adr, ← e]
    exact List.mem_map_of_mem hx
  refine hR _ _ _ hI' hq' ((X.keeps F'.keep) _ _ ho35) ?_ ?_
  · intro hn
    cases cs with
    | nil => exact absurd rfl hn
    | cons c r => exact h1 c r rfl h' tk' lx' t hl' F' (NN (fun _ _ _ e => e) hI' hne)
  · intro he h'' hk hIe
    cases cs with
    | cons c r => exact absurd he (head_ne c)
    | nil =>
      refine h0 rfl h'' tk' lx' hl' ⟨F'.ns.at' fun o e => hk _ _ (Ne.symm (N _ (.head _)).2.1) e, fun b o e => hk b o ?_ (F'.keep b o e), F'.above⟩ (NN hk hIe hne)
      rintro rfl
      rw [(N _ (.head _)).2.2] at e
      cases e
theorem isWs92 : isWs 92 = false := rfl
theorem GX.store {p : LP} {I : Addr} {g : Heap} {L : Addr} {lx : List (Addr × Obj)} {ch : Option Value} {tok v : Value} {w : World} {un dp : Nat} {gd : Option (List Code)} {outer : List Env} {pos : Pos} {s : Shared} {Q : Unit → Shared → Prop} {E : Value → Shared → Prop}
    (F : Fr g L s.heap (mOf p I ch tok)) (N : News g L s.heap lx) (h : ∀ h' tk', Fr g L h' (mOf p I (some v) tok) → News g L h' lx → Q () { s with heap := h', toks := tk' }) :
    wpAny (model pw w) (gA dp un gd L outer) (assign (.Name (Str.ofString "ch") pos) (genv L) v) Q E s := by
  refine wpAny_assign_Name (wpAny_storeName_local (env := genv L) (by rfl) F.ns (fun h' hn hs => ?_))
  exact h h' _ (fr_ch (F.set hn hs)) fun x hx => ⟨(hs.2 x.1 (N x hx).2.1).trans (N x hx).1, (N x hx).2⟩
inductive SInv (w : World) (p : LP) (I q : Addr) (T : Int) (s : Shared) (g : Heap) (L : Addr) (k2 : Nat) (tk : Tok) (stop : Nat → Bool) (acc : Str) (cs : List Nat) (n : Nat) (s' : Shared) : Prop
  | mk (h' : Heap) (tk' : Nat) (lx' : List (Addr × Obj)) (cs' : List Nat) (acc' : Str) (ch' : Option Value) (t' : Tok) (q0 : s' = { s with heap := h', toks := tk' }) (q1 : LexAt w p T cs' lx') (q2 : Fr g L h' (mOf p I ch' (.str acc' t'))) (q3 : News g L h' (hd3 p I q tk k2 lx')) (q4 : okCs cs') (q5 : acc'.length + cs'.length ≤ sizeLine) (q6 : n = cs'.length) (q7 : scan stop acc' cs' = scan stop acc cs) : SInv w p I q T s g L k2 tk stop acc cs n s'
theorem scan_loop {w : World} {mean : ExcName → Option Value} {mg mb : Str → Option Value} {p : LP} {I q : Addr} {dp un : Nat} {outer : List Env} {A₀ : Around} {base g : Heap} (G : GX w mean mg mb p I q dp un outer A₀ base g)
    (stop : Nat → Bool) (body : List Stmt) (hs92 : stop 92 = false)
    (turn : ∀ {T : Int} {gd : Option (List Code)} {L : Addr} {k2 : Nat} {s : Shared} {lx : List (Addr × Obj)} {c : Nat} {cs : List Nat} {acc : Str} {tc t : Tok} (oI oq : Obj) (_ : LexAt w p T cs lx) (_ : okCs cs) (_ : cs.length ≤ sizeLine) (_ : acc.length + (⟨#[c]⟩ : Str).length ≤ sizeLine) (_ : acc.length + (headT cs).length ≤ sizeLine)
      (_ : Fr g L s.heap (mOf p I (some (.str ⟨#[c]⟩ tc)) (.str acc t))) (_ : News g L s.heap ((I, oI) :: (q, oq) :: (p.pl, PySem.W.listOf #[] k2) :: lx)) (Q : Flow → Shared → Prop) (E : Value → Shared → Prop)
      (_ : stop c = true → ∀ h' tk' lx', LexAt w p T cs lx' → Fr g L h' (mOf p I (some (.str ⟨#[c]⟩ tc)) (.str acc t)) → News g L h' ((I, oI) :: (q, oq) :: (p.pl, PySem.W.listOf #[] k2) :: lx') → Q (.ret (.str acc t)) { s with heap := h', toks := tk' })
      (_ : stop c = false → c ≠ 92 → ∀ h' tk' lx' t', LexAt w p T cs lx' → Fr g L h' (mOf p I (some (.str ⟨#[c]⟩ tc)) (.str (acc ++ ⟨#[c]⟩) t')) → News g L h' ((I, oI) :: (q, oq) :: (p.pl, PySem.W.listOf #[] k2) :: lx') → Q .next { s with heap := h', toks := tk' })
      (_ : c = 92 → ∀ h' tk' lx' t' tc', LexAt w p T cs.tail lx' → Fr g L h' (mOf p I (some (.str (headT cs) tc')) (.str (acc ++ headT cs) t')) → News g L h' ((I, oI) :: (q, oq) :: (p.pl, PySem.W.listOf #[] k2) :: lx') → Q .next { s with heap := h', toks := tk' }),
      wpAny (model pw w) (gA dp un gd L outer) (execs body (genv L)) Q E s)
    {T : Int} {gd : Option (List Code)} {L : Addr} {k2 : Nat} {tk : Tok} {s : Shared} {lx : List (Addr × Obj)} {cs : List Nat} {acc : Str} {t : Tok} {ch : Option Value} {pos : Pos} (hl : LexAt w p T cs lx) (ho : okCs cs) (hz : acc.length + cs.length ≤ sizeLine)
    (F : Fr g L s.heap (mOf p I ch (.str acc t))) (N : News g L s.heap (hd3 p I q tk k2 lx)) (R : Result → Shared → Prop)
    (h0 : (scan stop acc cs).2.2 = true → ∀ h' tk' lx' ch' t', LexAt w p T [] lx' → Fr g L h' (mOf p I ch' (.str (scan stop acc cs).1 t')) → News g L h' (hd3e p I q k2 lx') → R (.ok .next) { s with heap := h', toks := tk' })
    (h1 : (scan stop acc cs).2.2 = false → ∀ h' tk' lx' ch' t', LexAt w p T (scan stop acc cs).2.1 lx' → Fr g L h' (mOf p I ch' (.str (scan stop acc cs).1 t')) → News g L h' (hd3 p I q tk k2 lx') → R (.ok (.ret (.str (scan stop acc cs).1 t'))) { s with heap := h', toks := tk' }) :
    codeAny (model pw w) (gA dp un gd L outer) (.forLoop (.Name (Str.ofString "ch") pos) (.ref I) body [] (genv L)) R s := by
  refine codeAny_forLoop_any (fun n s' => SInv w p I q T s g L k2 tk stop acc cs n s')
    ?_ cs.length ⟨s.heap, s.toks, lx, cs, acc, ch, t, rfl, hl, F, N, ho, hz, rfl, rfl⟩
  rintro n s' ⟨h₁, tk₁, lx₁, cs₁, acc₁, ch₁, t₁, rfl, hl₁, F₁, N₁, ho₁, hz₁, rfl, he⟩
  refine gt_next G hl₁ ho₁ (by omega) F₁ N₁ _ _ ?_ ?_
  · rintro rfl h₂ tk₂ lx₂ hl₂ F₂ N₂
    have e : scan stop acc cs = (acc₁, [], true) := by rw [← he]; rfl
    refine wpAny_execs_nil ?_
    refine h0 (by rw [e]) h₂ tk₂ lx₂ ch₁ t₁ hl₂ ?_ N₂
    rw [e]; exact F₂
  · rintro c r rfl h₂ tk₂ lx₂ tc hl₂ F₂ N₂
    have hor : okCs r := fun x hx => ho₁ x (.tail _ hx)
    simp only [List.length_cons] at hz₁
    refine wpAny_of_eq (a := ()) rfl ?_
    refine GX.store (v := .str ⟨#[c]⟩ tc) F₂ N₂ fun h₃ tk₃ F₃ N₃ => ?_
    have hh := len_head r
    refine turn _ _ hl₂ hor (by omega) (by rw [len_one]; omega) (by omega) F₃ N₃ _ _ ?_ ?_ ?_
    · intro hs h₄ tk₄ lx₄ hl₄ F₄ N₄
      have e : scan stop acc cs = (acc₁, r, false) := by rw [← he]; exact scan_stop hs
      have := h1 (by rw [e]) h₄ tk₄ lx₄ (some (.str ⟨#[c]⟩ tc)) t₁ (by rw [e]; exact hl₄) (by rw [e]; exact F₄) N₄
      rw [e] at this
      exact this
    · intro hs hc h₄ tk₄ lx₄ t' hl₄ F₄ N₄
      refine ⟨r.length, by simp, h₄, tk₄, lx₄, r, acc₁ ++ ⟨#[c]⟩, some (.str ⟨#[c]⟩ tc), t', rfl, hl₄, F₄, N₄, hor, ?_, rfl, ?_⟩
      · rw [len_app, len_one]; omega
      · rw [← he]; exact (scan_ch hs hc).symm
    · rintro rfl h₄ tk₄ lx₄ t' tc' hl₄ F₄ N₄
      refine ⟨r.tail.length, ?_, h₄, tk₄, lx₄, r.tail, acc₁ ++ headT r, some (.str (headT r) tc'), t', rfl, hl₄, F₄, N₄, fun x hx => hor x (List.mem_of_mem_tail hx), ?_, rfl, ?_⟩
      · simp; omega
      · rw [len_app]; omega
      · rw [← he]; exact (scan_bs hs92).symm
end
section
open PySem PySem.W PySem.Calls PyProof.Rows PySem.Spec
set_option maxHeartbeats 2000000
local macro_rules | `(tactic| walk_at "call ref") => `(tactic| (k_here; k_dflt (refine' read_use (by assumption) (by assumption) (by assumption) (by assumption) (by assumption) (by assumption) (by k_asm) (by k_asm) (by k_asm) (by k_asm) (by k_asm) rfl (by assumption) (by assumption) (by assumption) (by k_room) (by k_units) ?_; k_whole); intro h' tk' lx' t' hl' F' N'))
local macro_rules | `(tactic| walk_at "inplaceOp Add str str") => `(tactic| ((refine SBL.iadd (hsz := ?hsz) ?_); (case hsz => assumption); intro _ _ _))
noncomputable def word1 (c : Nat) (cs : List Nat) : Str × List Nat × Bool :=
  if c = 34 then scan (· == 34) (Str.ofString "") cs else if c = 92 then scan isWs (Str.ofString "" ++ headT cs) cs.tail else scan isWs (Str.ofString "" ++ ⟨#[c]⟩) cs
theorem for_fiter {w : World} {p : LP} {I q : Addr} {dp un : Nat} {gd : Option (List Code)} {outer : List Env} {g : Heap} {L : Addr} {k2 : Nat} {tk : Tok} {s : Shared} {lx : List (Addr × Obj)} {ch : Option Value} {tok : Value} {p1 p2 p3 : Pos} {body : List Stmt}
    (F : Fr g L s.heap (mOf p I ch tok)) (N : News g L s.heap (hd3 p I q tk k2 lx)) (Q : Flow → Shared → Prop) (E : Value → Shared → Prop)
    (h : codeAny (model pw w) (gA dp un gd L outer) (.forLoop (.Name (Str.ofString "ch") p1) (.ref I) body [] (genv L)) (fun r s' => match r with | .ok f => Q f s' | .error e => cameBackBy (model pw w) (gA dp un gd L outer) (genv L) E e s') s) :
    wpAny (model pw w) (gA dp un gd L outer) (exec (.For (.Name (Str.ofString "ch") p1) (.Name (Str.ofString "fiter") p2) body [] p3) (genv L)) Q E s := by
  refine wpAny_For ?_
  refine ld F (v := .ref I) (by rfl) ?_
  exact pyIter_ci (N _ (.head _)).1 h
theorem out_turn {w : World} {mean : ExcName → Option Value} {mg mb : Str → Option Value} {p : LP} {I q : Addr} {dp un : Nat} {outer : List Env} {A₀ : Around} {base g : Heap} (G : GX w mean mg mb p I q dp un outer A₀ base g)
    {T : Int} {gd : Option (List Code)} {L : Addr} {k2 : Nat} {tk : Tok} {s : Shared} {lx : List (Addr × Obj)} {c : Nat} {cs : List Nat} {tc t : Tok} (hl : LexAt w p T cs lx) (ho : okCs cs) (hz : cs.length + 1 ≤ sizeLine) (hs1 : (Str.ofString "").length + (⟨#[c]⟩ : Str).length ≤ sizeLine) (hs2 : (Str.ofString "").length + (headT cs).length ≤ sizeLine)
    (F : Fr g L s.heap (mOf p I (some (.str ⟨#[c]⟩ tc)) (.str (Str.ofString "") t))) (N : News g L s.heap (hd3 p I q tk k2 lx)) (Q : Flow → Shared → Prop) (E : Value → Shared → Prop)
    (hws : isWs c = true → ∀ h' tk' lx' ch' t', LexAt w p T cs lx' → Fr g L h' (mOf p I ch' (.str (Str.ofString "") t')) → News g L h' (hd3 p I q tk k2 lx') → Q .cont { s with heap := h', toks := tk' })
    (hend : isWs c = false → (word1 c cs).2.2 = true → ∀ h' tk' lx' ch' t', LexAt w p T [] lx' → Fr g L h' (mOf p I ch' (.str (word1 c cs).1 t')) → News g L h' (hd3e p I q k2 lx') → Q .next { s with heap := h', toks := tk' })
    (hret : isWs c = false → (word1 c cs).2.2 = false → ∀ h' tk' lx' ch' t', LexAt w p T (word1 c cs).2.1 lx' → Fr g L h' (mOf p I ch' (.str (word1 c cs).1 t')) → News g L h' (hd3 p I q tk k2 lx') → Q (.ret (.str (word1 c cs).1 t')) { s with heap := h', toks := tk' }) :
    wpAny (model pw w) (gA dp un gd L outer) (execs outB (genv L)) Q E s := by
  have G' := G
  obtain ⟨C9, P, O, B, X, Tp, hd, hu, f1, f2, f3, f4, f5⟩ := G
  have O' := O
  obtain ⟨o1, o2, o3, o4, o5, o6, o7, o8, o9, o10, o11⟩ := O
  obtain ⟨n, tn, vs, k, rfl, hv, hT⟩ := id hl
  have hz' : cs.length ≤ sizeLine := by omega
  have hh := len_head cs
  have hem : (Str.ofString "").length = 0 := by kernel_rfl
  dsimp only [outB, unw]
  k_steps
  · have e := is34 (by assumption)
    have hw := ws_no (by assumption)
    refine' for_fiter ?F ?N _ _ ?h
    case F => exact F
    case N => exact N
    have ew : word1 c cs = scan (· == 34) (Str.ofString "") cs := if_pos e
    rw [ew] at hend hret
    refine' scan_loop G' (· == 34) quotB rfl (by
      intro T gd L k2 s lx c cs acc tc t oI oq a1 a2 a3 a4 a5 a6 a7 Q E b1 b2 b3
      exact quot_turn G' oI oq a1 a2 a3 a4 a5 a6 a7 Q E (fun h => b1 (by simpa using h)) (fun h => b2 (by simpa using h)) (fun _ => b3)) hl ho ?hz ?F ?N _ ?h0 ?h1
    case F => exact F
    case N => exact N
    case hz => omega
    case h0 =>
      intro he h' tk' lx' ch' t' hl' F' N'
      refine wpAny_execs_nil ?_
      refine wpAny_execs_nil ?_
      exact hend hw he h' tk' lx' ch' t' hl' F' N'
    case h1 =>
      intro he h' tk' lx' ch' t' hl' F' N'
      exact hret hw he h' tk' lx' ch' t' hl' F' N'
  · rename_i hl₁ _ _ _ _ _ F₁ N₁
    have e := is92 (by assumption)
    have hw := ws_no (by assumption)
    refine' for_fiter ?F ?N _ _ ?h
    case F => exact (fr_tok_ch F₁)
    case N => exact N₁
    have ew : word1 c cs = scan isWs (Str.ofString "" ++ headT cs) cs.tail := by rw [e]; rfl
    rw [ew] at hend hret
    refine' scan_loop G' isWs bareB rfl (bare_turn G') hl₁ (fun x hx => ho x (List.mem_of_mem_tail hx)) ?hz ?F ?N _ ?h0 ?h1
    case F => exact (fr_tok_ch F₁)
    case N => exact N₁
    case hz => rw [len_app]; omega
    case h0 =>
      intro he h' tk' lx' ch' t' hl' F' N'
      refine wpAny_execs_nil ?_
      refine wpAny_execs_nil ?_
      exact hend hw he h' tk' lx' ch' t' hl' F' N'
    case h1 =>
      intro he h' tk' lx' ch' t' hl' F' N'
      exact hret hw he h' tk' lx' ch' t' hl' F' N'
  · rename_i F₁ N₁
    have e := ne92 (by assumption)
    have e' := ne34 (by assumption)
    have hw := ws_no (by assumption)
    refine' for_fiter ?F ?N _ _ ?h
    case F => exact (fr_tok F₁)
    case N => exact N₁
    have ew : word1 c cs = scan isWs (Str.ofString "" ++ ⟨#[c]⟩) cs := by unfold word1; rw [if_neg e', if_neg e]
    rw [ew] at hend hret
    refine' scan_loop G' isWs bareB rfl (bare_turn G') hl ho ?hz ?F ?N _ ?h0 ?h1
    case F => exact (fr_tok F₁)
    case N => exact N₁
    case hz => rw [len_app, len_one]; omega
    case h0 =>
      intro he h' tk' lx' ch' t' hl' F' N'
      refine wpAny_execs_nil ?_
      refine wpAny_execs_nil ?_
      exact hend hw he h' tk' lx' ch' t' hl' F' N'
    case h1 =>
      intro he h' tk' lx' ch' t' hl' F' N'
      exact hret hw he h' tk' lx' ch' t' hl' F' N'
  · exact hws (ws_yes (by assumption)) _ _ _ _ _ hl F N
end
section
open PySem PySem.W PySem.Calls PyProof.Rows PySem.Spec
set_option maxHeartbeats 2000000
local macro_rules | `(tactic| walk_at "call builtin:list.pop") => `(tactic| (k_here; (with_reducible show wpAny _ _ (call (Value.builtin _) [Value.ref _, Value.int 0 _]) _ _ _); k_dflt (refine' pop0 (by k_asm) (by k_asm) (by k_upd) (by assumption) ?_); kl_rest))
local macro_rules | `(tactic| walk_at "call builtin:iter") => `(tactic| (k_here; k_dflt (refine' iter2 (by k_asm) (by k_asm) (by k_mem) ?_); intro I' h' F' N' l1; (try k_lt l1)))
theorem truthy_cons {w : World} {A : Around} {E : Value → Shared → Prop} {s : Shared} {h₀ : Heap} {L l : Addr} {news : List (Addr × Obj)} {v : Value} {vs : List Value} {k : Nat} {Q : Bool → Shared → Prop} (N : News h₀ L s.heap news) (hm : (l, PySem.W.listOf (v :: vs).toArray k) ∈ news) (hz : (v :: vs).length ≤ sizeLine)
    (h : ∀ tk', Q true { s with toks := tk' }) : wpAny (model pw w) A (truthy (.ref l)) Q E s :=
  wpAny_truthy_list ⟨_, (N _ hm).1, rfl, _, rfl⟩ (by rw [sizeLine_eq] at hz; simp only [List.size_toArray]; omega) (by
    have : (!(v :: vs).toArray.isEmpty) = true := by simp
    rw [this]; exact h _)
theorem for_start {w : World} {A : Around} {E : Value → Shared → Prop} {s : Shared} {g : Heap} {L I q : Addr} {news : List (Addr × Obj)} {m : Str → Option Value} {t : Str} {tk : Tok} {target : Expr} {body : List Stmt} {p1 p2 : Pos} {Q : Flow → Shared → Prop}
    (F : Fr g L s.heap m) (N : News g L s.heap news) (hm : (I, ciObj (.ref q) (.str t tk)) ∈ news) (hI : m (Str.ofString "fiter") = some (.ref I))
    (h : codeAny (model pw w) A (.forLoop target (.ref I) body [] (genv L)) (fun r s' => match r with | .ok f => Q f s' | .error e => cameBackBy (model pw w) A (genv L) E e s') s) :
    wpAny (model pw w) A (exec (.For target (.Name (Str.ofString "fiter") p1) body [] p2) (genv L)) Q E s := by
  refine wpAny_For ?_
  refine ld F hI ?_
  exact pyIter_ci (N _ hm).1 h
theorem fr_start {g h : Heap} {L I : Addr} {p : LP} {t : Tok} {m : Str → Option Value} (F : Fr g L h m) (e : ∀ y, m y = if y = Str.ofString "fiter" then some (.ref I) else if y = Str.ofString "token" then some (.str (Str.ofString "") t) else List.lookup y [(Str.ofString "self", .ref p.x)]) :
    Fr g L h (mOf p I none (.str (Str.ofString "") t)) := by
  have e' : m = mOf p I none (.str (Str.ofString "") t) := by
    funext y
    rw [e y]
    unfold mOf
    by_cases h0 : y = Str.ofString "ch"
    · subst h0
      have h1 : Str.ofString "ch" ≠ Str.ofString "fiter" := by decide +kernel
      have h2 : Str.ofString "ch" ≠ Str.ofString "token" := by decide +kernel
      have h3 : (Str.ofString "ch" == Str.ofString "self") = false := by decide +kernel
      simp only [h1, h2, if_false, if_true, List.lookup_cons, h3, List.lookup_nil]
    by_cases h1 : y = Str.ofString "fiter"
    · subst h1
      have h2 : Str.ofString "fiter" ≠ Str.ofString "token" := by decide +kernel
      simp only [h0, h2, if_false, if_true]
    by_cases h2 : y = Str.ofString "token"
    · subst h2; simp only [h0, h1, if_false, if_true]
    by_cases h3 : y = Str.ofString "self"
    · subst h3; simp only [h0, h1, h2, if_false, if_true, List.lookup_cons, beq_self_eq_true]
    · have h4 : (y == Str.ofString "self") = false := beq_eq_false_iff_ne.mpr h3
      simp only [h0, h1, h2, h3, if_false, List.lookup_cons, h4, List.lookup_nil]
  rw [← e']; exact F
theorem scan_end (stop : Nat → Bool) (acc : Str) (cs : List Nat) : (scan stop acc cs).2.2 = true → (scan stop acc cs).2.1 = [] := by
  fun_induction scan stop acc cs <;> simp_all
theorem word_end {c : Nat} {cs : List Nat} (h : (word1 c cs).2.2 = true) : (word1 c cs).2.1 = [] := by
  unfold word1 at *
  by_cases h1 : c = 34
  · rw [if_pos h1] at *; exact scan_end _ _ _ h
  · rw [if_neg h1] at *
    by_cases h2 : c = 92
    · rw [if_pos h2] at *; exact scan_end _ _ _ h
    · rw [if_neg h2] at *; exact scan_end _ _ _ h
noncomputable def tokR : List Nat → Str × List Nat
  | [] => (Str.ofString "", [])
  | c :: r => if isWs c then tokR r else ((word1 c r).1, (word1 c r).2.1)
theorem out_loop {w : World} {mean : ExcName → Option Value} {mg mb : Str → Option Value} {p : LP} {I q : Addr} {dp un : Nat} {outer : List Env} {A₀ : Around} {base g : Heap} (G : GX w mean mg mb p I q dp un outer A₀ base g)
    {T : Int} {gd : Option (List Code)} {L : Addr} {k2 : Nat} {tk : Tok} {s : Shared} {lx : List (Addr × Obj)} {cs : List Nat} {t : Tok} {ch : Option Value} {pos : Pos} (hl : LexAt w p T cs lx) (ho : okCs cs) (hz : cs.length + 2 ≤ sizeLine)
    (F : Fr g L s.heap (mOf p I ch (.str (Str.ofString "") t))) (N : News g L s.heap (hd3 p I q tk k2 lx)) (R : Result → Shared → Prop)
    (h0 : ∀ h' tk' lx' ch' t' oI, LexAt w p T (tokR cs).2 lx' → Fr g L h' (mOf p I ch' (.str (tokR cs).1 t')) → News g L h' ((I, oI) :: (q, methodObj (.ref 35) (.ref p.x)) :: (p.pl, PySem.W.listOf #[] k2) :: lx') → R (.ok .next) { s with heap := h', toks := tk' })
    (h1 : ∀ h' tk' lx' ch' t' oI, LexAt w p T (tokR cs).2 lx' → Fr g L h' (mOf p I ch' (.str (tokR cs).1 t')) → News g L h' ((I, oI) :: (q, methodObj (.ref 35) (.ref p.x)) :: (p.pl, PySem.W.listOf #[] k2) :: lx') → R (.ok (.ret (.str (tokR cs).1 t'))) { s with heap := h', toks := tk' }) :
    codeAny (model pw w) (gA dp un gd L outer) (.forLoop (.Name (Str.ofString "ch") pos) (.ref I) outB [] (genv L)) R s := by
  have hem : (Str.ofString "").length = 0 := by kernel_rfl
  refine codeAny_forLoop_any (fun n s' => ∃ h' tk' lx' ch' t', s' = { s with heap := h', toks := tk' } ∧
      ((∃ cs', n = cs'.length + 1 ∧ LexAt w p T cs' lx' ∧ Fr g L h' (mOf p I ch' (.str (Str.ofString "") t')) ∧ News g L h' (hd3 p I q tk k2 lx') ∧ okCs cs' ∧ cs'.length + 2 ≤ sizeLine ∧ tokR cs' = tokR cs) ∨
       (n = 0 ∧ LexAt w p T (tokR cs).2 lx' ∧ Fr g L h' (mOf p I ch' (.str (tokR cs).1 t')) ∧ News g L h' (hd3e p I q k2 lx'))))
    ?_ (cs.length + 1) ⟨s.heap, s.toks, lx, ch, t, rfl, .inl ⟨cs, rfl, hl, F, N, ho, hz, rfl⟩⟩
  rintro n s' ⟨h₁, tk₁, lx₁, ch₁, t₁, rfl, (⟨cs₁, rfl, hl₁, F₁, N₁, ho₁, hz₁, he⟩ | ⟨rfl, hl₁, F₁, N₁⟩)⟩
  · refine gt_next G hl₁ ho₁ (by omega) F₁ N₁ _ _ ?_ ?_
    · rintro rfl h₂ tk₂ lx₂ hl₂ F₂ N₂
      have e : tokR cs = (Str.ofString "", []) := he.symm
      refine wpAny_execs_nil ?_
      exact h0 h₂ tk₂ lx₂ ch₁ t₁ _ (by rw [e]; exact hl₂) (by rw [e]; exact F₂) N₂
    · rintro c r rfl h₂ tk₂ lx₂ tc hl₂ F₂ N₂
      have hor : okCs r := fun x hx => ho₁ x (.tail _ hx)
      simp only [List.length_cons] at hz₁
      have hh := len_head r
      refine wpAny_of_eq (a := ()) rfl ?_
      refine GX.store (v := .str ⟨#[c]⟩ tc) F₂ N₂ fun h₃ tk₃ F₃ N₃ => ?_
      refine out_turn G hl₂ hor (by omega) (by rw [len_one]; omega) (by omega) F₃ N₃ _ _ ?_ ?_ ?_
      · intro hs h₄ tk₄ lx₄ ch₄ t₄ hl₄ F₄ N₄
        refine ⟨r.length + 1, by simp, h₄, tk₄, lx₄, ch₄, t₄, rfl, .inl ⟨r, rfl, hl₄, F₄, N₄, hor, by omega, ?_⟩⟩
        rw [← he]; simp [tokR, hs]
      · intro hs hen h₄ tk₄ lx₄ ch₄ t₄ hl₄ F₄ N₄
        have e : tokR cs = ((word1 c r).1, []) := by rw [← he, ← word_end hen]; simp [tokR, hs]
        exact ⟨0, by simp, h₄, tk₄, lx₄, ch₄, t₄, rfl, .inr ⟨rfl, by rw [e]; exact hl₄, by rw [e]; exact F₄, N₄⟩⟩
      · intro hs hen h₄ tk₄ lx₄ ch₄ t₄ hl₄ F₄ N₄
        have e : tokR cs = ((word1 c r).1, (word1 c r).2.1) := by rw [← he]; simp [tokR, hs]
        have := h1 h₄ tk₄ lx₄ ch₄ t₄ _ (by rw [e]; exact hl₄) (by rw [e]; exact F₄) N₄
        rw [e] at this
        exact this
  · have hI := (N₁ _ (.head _)).1
    refine ce_next (hh := rfl) hI fun h₂ hk => ?_
    refine wpAny_execs_nil ?_
    exact h0 h₂ _ lx₁ ch₁ t₁ _ hl₁ ⟨F₁.ns.at' fun o e => hk _ _ e, fun b o e => hk b o (F₁.keep b o e), F₁.above⟩ fun x hx => ⟨hk _ _ (N₁ x hx).1, (N₁ x hx).2⟩
local macro_rules | `(tactic| walk_at "exec For Name Name cons nil") => `(tactic| (k_here; k_dflt (refine' for_start (by k_asm) (by k_asm) (by k_mem) rfl ?_; k_whole)))
local macro_rules | `(tactic| walk_at "truthy ref") => `(tactic| (k_here; k_dflt (refine' truthy_cons (by k_asm) (by k_mem) (by assumption) ?_; k_whole)))
theorem get_push (w : World) (mean mg mb) (p : LP) (T : Int) (cs : List Nat) (lx : List (Addr × Obj)) (C9 : HasCode) (O : p.Far) (hl : LexAt w p T cs lx) (v : Value) (vs : List Value) (k2 : Nat) (hz : (v :: vs).length ≤ sizeLine) :
    KCy w mean mg mb 42 ((p.pl, PySem.W.listOf (v :: vs).toArray k2) :: lx) [.ref p.x] (fun v' news => v' = v ∧ news = (p.pl, PySem.W.listOf vs.toArray (k2 + 1)) :: lx) := by
  obtain ⟨n, tn, us, k, rfl, hv, hT⟩ := hl
  obtain ⟨o1, o2, o3, o4, o5, o6, o7, o8, o9, o10, o11⟩ := O
  unfold KCy
  intros
  rename_i hret
  cell_enter
  k_steps
  all_goals exact hret _ _ _ _ ⟨rfl, rfl⟩ (by assumption) (by assumption) (gsub_end (by assumption) (by assumption))
theorem get_word (w : World) (mean mg mb) (p : LP) (T : Int) (cs : List Nat) (lx : List (Addr × Obj)) (C9 : HasCode) (P : p.Ok) (O : p.Far) (hl : LexAt w p T cs lx) (k2 : Nat) (ho : okCs cs) (hz : cs.length + 2 ≤ sizeLine) :
    KCy w mean mg mb 42 ((p.pl, PySem.W.listOf #[] k2) :: lx) [.ref p.x] (fun v' news => ∃ lx' t, v' = .str (tokR cs).1 t ∧ news = (p.pl, PySem.W.listOf #[] k2) :: lx' ∧ LexAt w p T (tokR cs).2 lx') := by
  obtain ⟨n, tn, us, k, rfl, hv, hT⟩ := id hl
  have O' := O
  obtain ⟨o1, o2, o3, o4, o5, o6, o7, o8, o9, o10, o11⟩ := O
  unfold KCy
  intros
  rename_i hret
  cell_enter
  k_steps
  rename_i q₁ _ l1 I₁ _ l2 _ F N
  refine' out_loop ⟨C9, P, O', ?B, ?X, ?T, ?d, ?u, ?f1, ?f2, ?f3, ?f4, ?f5⟩ hl ho hz ?F ?N _ ?h0 ?h1
  case B => assumption
  case X => assumption
  case T => assumption
  case N => exact N
  case F => exact fr_start F fun y => rfl
  case d => k_room
  case u => k_units
  case f1 => (intro hm; simp only [LP.adrs, List.mem_cons, List.not_mem_nil, or_false] at hm; rcases hm with h | h | h | h | h | h | h | h <;> (have h := (show @Eq Nat _ _ from h); omega))
  case f2 => (intro hm; simp only [LP.adrs, List.mem_cons, List.not_mem_nil, or_false] at hm; rcases hm with h | h | h | h | h | h | h | h <;> (have h := (show @Eq Nat _ _ from h); omega))
  case f3 => (intro hm; simp only [LP.adrs, List.mem_cons, List.not_mem_nil, or_false] at hm; rcases hm with h | h | h | h | h | h | h | h <;> (have h := (show @Eq Nat _ _ from h); omega))
  case f4 => exact (show @Ne Nat _ _ by omega)
  case f5 => exact (show @Ne Nat _ _ by omega)
  case h0 =>
    intro h' tk' lx' ch' t' oI hl' F' N'
    show wpAny _ _ (execs [Stmt.Return _ _] _) _ _ _
    k_steps
    all_goals exact hret _ _ _ _ ⟨_, _, rfl, rfl, hl'⟩ (by assumption) (fun x hx => (by assumption : News _ _ _ (_ :: _ :: _)) x (.tail _ (.tail _ hx))) (gsub_end (by assumption) (by assumption))
  case h1 =>
    intro h' tk' lx' ch' t' oI hl' F' N'
    show LeaveK _ _ _ _ _ _ _
    refine leaveK_ F' N' ?_
    intro kF kN
    exact hret _ _ _ _ ⟨_, _, rfl, rfl, hl'⟩ kF (fun x hx => kN x (.tail _ (.tail _ hx))) (gsub_end (by assumption) F')
end
section
open PySem PySem.W PySem.Calls PyProof.Rows PySem.Spec
set_option maxHeartbeats 2000000
theorem push_c (w : World) (mean mg mb) (p : LP) (T : Int) (cs : List Nat) (lx : List (Addr × Obj)) (C9 : HasCode) (O : p.Far) (hl : LexAt w p T cs lx) (v : Value) (vs : List Value) (k2 : Nat) (hz : (v :: vs).length ≤ sizeLine) :
    KCy w mean mg mb 49 ((p.pl, PySem.W.listOf vs.toArray k2) :: lx) [.ref p.x, v] (fun v' news => v' = .none ∧ news = (p.pl, PySem.W.listOf (vs ++ [v]).toArray (k2 + 1)) :: lx) := by
  obtain ⟨n, tn, us, k, rfl, hv, hT⟩ := hl
  obtain ⟨o1, o2, o3, o4, o5, o6, o7, o8, o9, o10, o11⟩ := O
  unfold KCy
  intros
  rename_i hret
  cell_enter
  k_steps
  have e : vs.toArray.push v = (vs ++ [v]).toArray := by simp
  rename_i kN _ _
  have G8 : GSub _ _ _ := gsub_end (by assumption) (by assumption : Fr _ _ _ (fun y => List.lookup y _))
  rw [e] at kN
  exact hret _ _ _ _ ⟨rfl, rfl⟩ (by assumption) kN G8
end
section
open PySem PySem.W PySem.Calls PyProof.Rows PySem.Spec
set_option maxHeartbeats 2000000
local macro_rules | `(tactic| kpc_none) => `(tactic| grind)
theorem SV.of_get : ∀ {vs : List Value} {xs : List Str}, vs.length = xs.length → (∀ (j : Nat) (v : Value), vs[j]? = some v → ∃ (x : Str) (t : Tok), xs[j]? = some x ∧ v = Value.str x t) → SV vs xs
  | [], [], _, _ => trivial
  | [], _ :: _, h, _ => by cases h
  | _ :: _, [], h, _ => by cases h
  | v :: vs, x :: xs, h, g => by
    obtain ⟨x', t, e, e'⟩ := g 0 v rfl
    have e : x = x' := by simpa using e
    subst e
    exact ⟨⟨t, e'⟩, SV.of_get (by simpa using h) fun j v' hj => by simpa using g (j + 1) v' (by simpa using hj)⟩
theorem sv_of_items {x : Str} {acc : Array Value} (h : ItemsOf (SignAt x) acc x.cps.size) : SV acc.toList (chs x.cps.toList) := by
  refine SV.of_get ?_ fun j v hj => ?_
  · simp [chs, h.1]
  · obtain ⟨c, u, hc, hv⟩ := h.2 j v (by simpa using hj)
    exact ⟨⟨#[c]⟩, u, by simp [chs, hc], hv⟩
theorem list_str_K {w : World} {A : Around} {E : Value → Shared → Prop} {s : Shared} {h₀ : Heap} {L : Addr} {m : Str → Option Value} {news : List (Addr × Obj)} {x : Str} {t : Tok} {Q : Value → Shared → Prop} (hh : A.handled = none) (F : Fr h₀ L s.heap m) (N : News h₀ L s.heap news) (hz : x.cps.size ≤ sizeLine)
    (h : ∀ D h' tk' vs k, Fr h₀ L h' m → News h₀ L h' ((D, PySem.W.listOf vs.toArray k) :: news) → (∀ p ∈ news, p.1 < D) → SV vs (chs x.cps.toList) → Q (.ref D) { s with heap := h', toks := tk' }) :
    wpAny (model pw w) A (call (.type "list") [.str x t]) Q E s := by
  refine call_list_str hh x t (hn := hz) fun h' tk acc' c' hk hS' hacc => ?_
  have hL : L < s.heap.objs.size := F.ns.lt
  refine h _ h' tk acc'.toList c' ⟨F.ns.at' fun o e => hk _ _ e, fun b o e => hk b o (F.keep b o e), F.above⟩ (fun p hp => ?_) (fun p hp => Heap.lt_size (N p hp).1) (sv_of_items hacc)
  rcases List.mem_cons.mp hp with rfl | hp
  · exact ⟨by simpa using hS', Nat.ne_of_gt hL, Heap.get?_none_of_le (Nat.le_trans F.above (Nat.le_of_lt hL))⟩
  · exact ⟨hk _ _ (N p hp).1, (N p hp).2⟩

local macro_rules | `(tactic| walk_at "call type:list") => `(tactic| (k_here; k_dflt (refine' list_str_K rfl (by k_asm) (by k_asm) (by assumption) ?_); intro D' h' tk' vs' k' F' N' l1 sv'; (try k_lt l1)))
noncomputable def MoreBelow (more : List (Addr × Obj)) (L : Nat) : Prop := ∀ p ∈ more, @LT.lt Nat _ p.1 L
theorem more_ne {more : List (Addr × Obj)} {L a : Nat} (h : MoreBelow more L) (ha : L ≤ a) : ∀ p ∈ more, p.1 ≠ a := fun p hp => Nat.ne_of_lt (Nat.lt_of_lt_of_le (h p hp) ha)
local macro_rules | `(tactic| k_all) => `(tactic| first | with_reducible assumption | (refine more_ne (by assumption) ?_; omega))
noncomputable abbrev tab1 (c : Addr) : Obj := tabObj (#[] ++ #[rawInt ((67 : Nat) : Int), rawInt ((18 : Nat) : Int), Value.ref c])
noncomputable def LP.fresh (p : LP) : List Addr := [p.pl, p.x, p.d, p.y, p.dy, p.f, p.cc, p.sl]
inductive LexNew (w : World) (cs : List Nat) (more : List (Addr × Obj)) (c : Addr) (oc : Obj) (v : Value) (news : List (Addr × Obj)) : Prop
  | mk (p : LP) (kp : Nat) (lx : List (Addr × Obj)) (q0 : v = .ref p.x) (q1 : news = (143, tab1 c) :: (p.pl, PySem.W.listOf #[] kp) :: (lx ++ more)) (q2 : LexAt w p (1 + (cs.count 10 : Nat)) cs lx) (q3 : p.Ok) (q4 : p.Far) (q5 : p.c = c) (q6 : p.oc = oc) (q7 : (∀ b ∈ p.fresh, (∀ q ∈ more, @LT.lt Nat _ q.1 b) ∧ @LT.lt Nat _ 143 b)) : LexNew w cs more c oc v news
theorem lexer_pack {w : World} {h₀ h : Heap} {L : Addr} {news more : List (Addr × Obj)} {cs : List Nat} (x : Addr) {pl d f c pl2 y dy sl cc : Addr} {t1 t2 t3 t4 t5 t6 t7 t8 t9 tn u1 u2 u3 tq : Tok} {ws2 : Str} {kp k : Nat} {oc co : Obj} {ocv : Array Value} {pm ct : Value} {qual : Str} {vs : List Value}
    (N : News h₀ L h news) (mx : (x, instObj 52 d) ∈ news)
    (md : (d, dictOf [dE w "lineno" t1 (.int 1 tn), dE w "instream" t2 (.ref y), dE w "whitespace" t3 (.str wsT u1), dE w "pushback" t4 (.ref pl)] 4) ∈ news)
    (mpl : (pl, PySem.W.listOf #[] kp) ∈ news) (my : (y, instObj 52 dy) ∈ news)
    (mdy : (dy, dictOf [dE w "lineno" t5 (.int 1 u2), dE w "instream" t6 .none, dE w "whitespace" t7 (.str ws2 u3), dE w "pushback" t8 (.ref pl2), dE w "read" t9 (.ref f)] 5) ∈ news)
    (mf : (f, kla_obj (Str.ofString "<lambda>") qual lamP lamB lamS [(Str.ofString "signs", cc)] pm c ct) ∈ news) (mc : (c, oc) ∈ news) (mcc : (cc, co) ∈ news)
    (hco : co.data = .cell (some (.ref sl))) (msl : (sl, PySem.W.listOf vs.toArray k) ∈ news) (mt : (143, tab1 c) ∈ news) (mm : ∀ q ∈ more, q ∈ news)
    (hq : qual = Str.ofString "_law_lexer.<locals>.<lambda>") (hoc : oc.data = .fields ocv) (hoc1 : ocv[1]? = some (.str qual tq)) (hv : SV vs (chs cs))
    (far : @LT.lt Nat _ cc sl ∧ @LT.lt Nat _ sl dy ∧ @LT.lt Nat _ dy y ∧ @LT.lt Nat _ y pl2 ∧ @LT.lt Nat _ pl2 f ∧ @LT.lt Nat _ f d ∧ @LT.lt Nat _ d x ∧ @LT.lt Nat _ x pl ∧ @Ne Nat c d ∧ @Ne Nat c sl ∧ @Ne Nat c pl)
    (hM : MoreBelow more cc) (h1 : @LT.lt Nat _ 143 cc) {Z : Prop} (kz : ∀ news', LexNew w cs more c oc (.ref x) news' → News h₀ L h news' → Z) : Z := by
  subst hq
  refine Exists.elim (?_ : ∃ news', LexNew w cs more c oc (.ref x) news' ∧ News h₀ L h news') fun n z => kz n z.1 z.2
  obtain ⟨o1, o2, o3, o4, o5, o6, o7, o8, o9, o10, o11⟩ := far
  let p : LP := ⟨x, d, y, dy, f, c, cc, sl, pl, pl2, ws2, t1, t2, t3, t4, t5, t6, t7, t8, t9, u1, u2, u3, oc, ocv, tq, pm, ct, co⟩
  refine ⟨_, ⟨p, kp, lexL w p 1 tn vs k, rfl, rfl, ⟨1, tn, vs, k, rfl, hv, rfl⟩, ⟨hco, hoc, hoc1⟩, ⟨o1, o2, o3, o4, o5, o6, o7, o8, o9, o10, o11⟩, rfl, rfl, ?_⟩, ?_⟩
  · intro b hb
    have hb' : @LE.le Nat _ cc b := by
      simp only [LP.fresh, List.mem_cons, List.not_mem_nil, or_false, p] at hb
      rcases hb with h | h | h | h | h | h | h | h <;> (have h := (show @Eq Nat _ _ from h); omega)
    exact ⟨fun q hq => Nat.lt_of_lt_of_le (hM q hq) hb', Nat.lt_of_lt_of_le h1 hb'⟩
  · intro q hq
    rcases List.mem_cons.mp hq with rfl | hq
    · exact N _ mt
    rcases List.mem_cons.mp hq with rfl | hq
    · exact N _ mpl
    rcases List.mem_append.mp hq with hq | hq
    · simp only [lexL, List.mem_cons, List.not_mem_nil, or_false, p] at hq
      rcases hq with rfl | rfl | rfl | rfl | rfl | rfl | rfl | rfl
      · exact N _ mx
      · exact N _ md
      · exact N _ my
      · exact N _ mdy
      · exact N _ mf
      · exact N _ mc
      · exact N _ mcc
      · exact N _ msl
    · exact N _ (mm q hq)
end
section
open PySem PySem.W PySem.Calls PyProof.Rows PySem.Spec
local macro_rules | `(tactic| k_all) => `(tactic| first | with_reducible assumption | (refine more_ne (by assumption) ?_; omega))
section
open PySem PySem.W PySem.Calls PyProof.Rows PySem.Spec
set_option maxHeartbeats 2000000
local macro_rules | `(tactic| walk_at "call type:list") => `(tactic| (k_here; k_dflt (refine' list_str_K rfl (by k_asm) (by k_asm) (by assumption) ?_); intro D' h' tk' vs' k' F' N' l1 sv'; (try k_lt l1)))
noncomputable abbrev KCz (w : World) (mean : ExcName → Option Value) (mg mb : Str → Option Value) (f : Addr) (news : List (Addr × Obj)) (vs : List Value) (Ok : Value → List (Addr × Obj) → Prop) : Prop :=
  ∀ (dp un : Nat) (gd : Option (List Code)) (cn : Str) (cs : Scope) (a : Addr) (ccd : Value) (cl : List (Str × Addr)) (outer : List Env) (A₀ : Around) (base h₀ : Heap) (L : Addr) (m : Str → Option Value) (s : Shared) (R : Result → Shared → Prop),
    Below A₀ base outer h₀ → Fr h₀ L s.heap m → (K w.params).In h₀ → News h₀ L s.heap news → Top tq lz mean mg mb h₀ → cs.kind = .function →
    dp + 80 < recursionLimit → un + 800 < cLine → (∀ v' h' tk' news', Ok v' news' → Fr h₀ L h' m → News h₀ L h' news' → R (.ok (.ret v')) { s with heap := h', toks := tk' }) →
      codeAny (model pw w) (ktrTop dp un gd cn cs L a ccd cl outer) (.call (.ref f) ⟨vs, []⟩) R s
theorem lexer_c1 (w : World) (mean mg mb) (x : Str) (tx : Tok) (hx : x.cps.size ≤ sizeLine) (more : List (Addr × Obj)) (hm : ∀ p ∈ more, p.1 ≠ 143) :
    KCz w mean mg mb 148 ((143, tabObj #[]) :: more) [.str x tx] (fun v news => ∃ c oc, LexNew w x.cps.toList more c oc v news ∧ (∀ q ∈ more, @LT.lt Nat _ q.1 c) ∧ @LT.lt Nat _ 143 c) := by
  unfold KCz
  intros
  rename_i hret
  refine' code_defC ?k1 ?k2 ?k3 ?k4 ?k5 ?kA ?kF ?kK ?k6 ?k7 ?k8 ?k9 ?kB ?kD ?_ ?c2 ?c3 ?c4; (case kA => exact rfl); (case kF => exact rfl); (case kK => assumption); (case k1 => k_asm); (case k2 => k_asm); (case k3 => k_asm); (case k4 => k_asm); (case k5 => k_asm); (case k6 => k_is); (case k7 => k_is); (case k8 => ktr_room); (case k9 => exact BindsTo.of_eq rfl); (case kB => exact rfl); (case kD => decide +kernel); (case c2 => exact rfl); (case c3 => exact rfl); (case c4 => exact rfl); k_whole; intro g' L' h' tk' cells' FG' F' N' Y' B' X' T' l1; (have hML : MoreBelow more L' := fun p hp => l1 p (.tail _ hp)); (try k_lt l1); k_cells Y'; (try simp only [List.cons_append, List.nil_append] at N'); (try dsimp only); (try k_lift B'); (try k_fold)
  have C7 : CodeHd g' 147 143 := codeHd_of_K X' (by kernel_rfl)
  k_steps
  refine' lexer_pack (cs := x.cps.toList) (more := more) _ (by assumption) ?mx ?md ?mpl ?my ?mdy ?mf ?mc ?mcc ?hco ?msl ?mt ?mm ?hq ?hoc ?hoc1 ?hv ?far ?hM ?h1 ?kz
  case mx => k_mem
  case md => k_mem
  case mpl => k_mem
  case my => k_mem
  case mdy => k_mem
  case mf => k_mem
  case mc => k_mem
  case mcc => k_mem
  case hco => assumption
  case msl => k_mem
  case mt => k_mem
  case hoc => assumption
  case hoc1 => assumption
  case hv => assumption
  case far => refine ⟨?_, ?_, ?_, ?_, ?_, ?_, ?_, ?_, ?_, ?_, ?_⟩ <;> omega
  case h1 => omega
  case hq => kernel_rfl
  case kz => exact fun news' h8 N8 => hret _ _ _ news' ⟨_, _, h8, fun q hq => Nat.lt_trans (hML q hq) (by omega), by omega⟩ (by assumption) N8
  case mm => exact fun q hq => by repeat (first | exact hq | apply List.Mem.tail)
  case hM => exact fun q hq => Nat.lt_trans (hML q hq) (by omega)

theorem lexer_c2 (w : World) (mean mg mb) (x : Str) (tx : Tok) (hx : x.cps.size ≤ sizeLine) (c : Addr) (oc : Obj) (ocv : Array Value) (tq : Tok) (hoc : oc.data = .fields ocv) (hoc1 : ocv[1]? = some (.str (Str.ofString "_law_lexer.<locals>.<lambda>") tq)) (more : List (Addr × Obj)) (hm : ∀ p ∈ more, p.1 ≠ 143) :
    KCz w mean mg mb 148 ((143, tab1 c) :: (c, oc) :: more) [.str x tx] (fun v news => LexNew w x.cps.toList ((c, oc) :: more) c oc v news) := by
  unfold KCz
  intros
  rename_i hret
  refine' code_defC ?k1 ?k2 ?k3 ?k4 ?k5 ?kA ?kF ?kK ?k6 ?k7 ?k8 ?k9 ?kB ?kD ?_ ?c2 ?c3 ?c4; (case kA => exact rfl); (case kF => exact rfl); (case kK => assumption); (case k1 => k_asm); (case k2 => k_asm); (case k3 => k_asm); (case k4 => k_asm); (case k5 => k_asm); (case k6 => k_is); (case k7 => k_is); (case k8 => ktr_room); (case k9 => exact BindsTo.of_eq rfl); (case kB => exact rfl); (case kD => decide +kernel); (case c2 => exact rfl); (case c3 => exact rfl); (case c4 => exact rfl); k_whole; intro g' L' h' tk' cells' FG' F' N' Y' B' X' T' l1; (have hML : MoreBelow more L' := fun p hp => l1 p (.tail _ (.tail _ hp))); (try k_lt l1); k_cells Y'; (try simp only [List.cons_append, List.nil_append] at N'); (try dsimp only); (try k_lift B'); (try k_fold)
  have C7 : CodeHd g' 147 143 := codeHd_of_K X' (by kernel_rfl)
  k_steps
  refine' lexer_pack (cs := x.cps.toList) (more := (c, oc) :: more) _ (by assumption) ?mx ?md ?mpl ?my ?mdy ?mf ?mc ?mcc ?hco ?msl ?mt ?mm ?hq ?hoc ?hoc1 ?hv ?far ?hM ?h1 ?kz
  case mx => k_mem
  case md => k_mem
  case mpl => k_mem
  case my => k_mem
  case mdy => k_mem
  case mf => k_mem
  case mc => k_mem
  case mcc => k_mem
  case hco => assumption
  case msl => k_mem
  case mt => k_mem
  case hoc => assumption
  case hoc1 => assumption
  case hv => assumption
  case far => refine ⟨?_, ?_, ?_, ?_, ?_, ?_, ?_, ?_, ?_, ?_, ?_⟩ <;> omega
  case h1 => omega
  case hq => kernel_rfl
  case kz => exact fun news' h8 N8 => hret _ _ _ news' h8 (by assumption) N8
  case mm => exact fun q hq => by repeat (first | exact hq | apply List.Mem.tail)
  case hM => exact List.forall_mem_cons.mpr ⟨by dsimp only; omega, fun q hq => Nat.lt_trans (hML q hq) (by omega)⟩
end
section
open PySem PySem.W PySem.Calls PyProof.Rows PySem.Spec
set_option maxHeartbeats 2000000
noncomputable def ES (P : Params) : Array DictEntry := match (K P).lookup 96 with | some ⟨_, _, .dict es _, _⟩ => es | _ => #[]
noncomputable def EN (P : Params) : Nat := match (K P).lookup 96 with | some ⟨_, _, .dict _ n, _⟩ => n | _ => 0
theorem es_is (P : Params) : (K P).lookup 96 = some ⟨.type "dict", none, .dict (ES P) (EN P), #[]⟩ := by kernel_rfl
noncomputable def entOk (e : DictEntry) : Bool := match e.key, e.val with | .int k _, .str _ _ => e.hash == hashInt k | _, _ => false
theorem es_ok (P : Params) : (ES P).toList.all entOk = true := by kernel_rfl
theorem es_keys (w : World) : KeysOf (intKind pw w) (ES w.params) := by
  intro e he
  have h := List.all_eq_true.mp (es_ok w.params) e (by simpa using he)
  unfold entOk at h
  split at h
  · rename_i k t x u hk hv
    exact ⟨k, by rw [hk]; show Value.isInt k (.int k t) = true; simp [Value.isInt], eq_of_beq h⟩
  · cases h
theorem b3_map {w : World} {h : Heap} (X : (K w.params).In h) : h.MapOf (intKind pw w) 96 (findBy (intKind pw w).is (ES w.params)) :=
  ⟨_, _, _, X _ _ (es_is w.params), ⟨rfl, rfl, rfl⟩, rfl, es_keys w, fun _ => rfl⟩
theorem b3_type {w : World} {s : Shared} (X : (K w.params).In s.heap) : s.TypeIs (.ref 96) "dict" := ⟨_, X _ _ (es_is w.params), rfl⟩
noncomputable def BS (P : Params) : Array (Int × Value) := match (K P).lookup 85 with | some ⟨_, _, .set es _ _, _⟩ => es | _ => #[]
noncomputable def BN (P : Params) : Nat := match (K P).lookup 85 with | some ⟨_, _, .set _ n _, _⟩ => n | _ => 0
noncomputable def BTb (P : Params) : SetTable := match (K P).lookup 85 with | some ⟨_, _, .set _ _ t, _⟩ => t | _ => default
theorem bset_is (P : Params) : (K P).lookup 85 = some ⟨.type "set", none, .set (BS P) (BN P) (BTb P), #[]⟩ := by kernel_rfl
noncomputable def elOk (e : Int × Value) : Bool := match e.2 with | .int k _ => e.1 == hashInt k && e.2.scannable | _ => false
theorem bset_ok (P : Params) : (BS P).toList.all elOk = true := by kernel_rfl
theorem bset_size (P : Params) : (BS P).size = 27 := by kernel_rfl
theorem bset_fits (P : Params) : (BTb P).fits 27 = true := by kernel_rfl
noncomputable def isB1 (P : Params) (k : Int) : Bool := (BS P).toList.any fun e => Value.isInt k e.2
theorem b1_set {w : World} {h : Heap} (X : (K w.params).In h) : h.SetOf (intKind pw w) 85 (isB1 w.params) 27 := by
  refine ⟨_, _, _, _, X _ _ (bset_is w.params), ⟨rfl, rfl, rfl⟩, rfl, ?_, ?_, by rw [bset_size]; decide, by rw [bset_size]; exact bset_fits _, bset_size _⟩
  · intro e he
    have h := List.all_eq_true.mp (bset_ok w.params) e he
    unfold elOk at h
    split at h
    · rename_i k t hk
      rw [Bool.and_eq_true] at h
      exact ⟨⟨k, by rw [hk]; show Value.isInt k (.int k t) = true; simp [Value.isInt], eq_of_beq h.1⟩, h.2⟩
    · cases h
  · intro k
    unfold isB1
    rw [List.any_eq_true]
    rfl
end
section
open PySem PySem.W PySem.Calls PyProof.Rows PySem.Spec
set_option maxHeartbeats 2000000
theorem in_b1 {w : World} {A : Around} {E : Value → Shared → Prop} {s : Shared} {h₀ : Heap} {L : Addr} {m : Str → Option Value} {c : Nat} {t : Tok} {Q : Value → Shared → Prop} (F : Fr h₀ L s.heap m) (X : (K w.params).In h₀)
    (h : ∀ tk', Q (.bool (isB1 w.params c)) { s with toks := tk' }) : wpAny (model pw w) A (compareOp .In (.int (c : Int) t) (.ref 85)) Q E s :=
  wpAny_inSet_of (knd := intKind pw w) (by show Value.isInt (c : Int) (.int (c : Int) t) = true; simp [Value.isInt]) rfl (b1_set (X.keeps F.keep)) (h _)
local macro_rules | `(tactic| walk_at "compareOp In int ref") => `(tactic| (k_here; k_dflt (refine' in_b1 (by k_asm) (by k_in) ?_); intro tk'))
theorem get_meth {w : World} {A : Around} {E : Value → Shared → Prop} {s : Shared} {h₀ : Heap} {L : Addr} {m : Str → Option Value} {pl : Sem Bool} {Q : Value × List Value → Shared → Prop} (F : Fr h₀ L s.heap m) (X : (K w.params).In h₀)
    (h : Q (.builtin "dict.get", [.ref 96]) s) : wpAny (model pw w) A (getMethod (.ref 96) (Str.ofString "get") pl) Q E s :=
  have hm := b3_map (X.keeps F.keep)
  getMethod_builtin (b3_type (X.keeps F.keep)) PySem.F.plainAttrs_dict PySem.F.slot_dict_get PySem.F.type_dict_get hm.noDict h
theorem get_call {w : World} {A : Around} {E : Value → Shared → Prop} {s : Shared} {h₀ : Heap} {L : Addr} {m : Str → Option Value} {c : Nat} {t : Tok} {v : Value} {Q : Value → Shared → Prop} (F : Fr h₀ L s.heap m) (X : (K w.params).In h₀) (hv : (findBy Value.isInt (ES w.params) (c : Int)).getD .none = v)
    (h : ∀ tk', Q v { s with toks := tk' }) : wpAny (model pw w) A (call (.builtin "dict.get") [.ref 96, .int (c : Int) t]) Q E s :=
  call_meetsIn PySem.F.slot_dict_get (b3_type (X.keeps F.keep)) PySem.F.entry_dict_get (PySem.F.args_dict_get_2 _ _) (meets_dict_get (intKind pw w) 96 (k := (c : Int)) (by show Value.isInt (c : Int) (.int (c : Int) t) = true; simp [Value.isInt]) rfl) ⟨_, b3_map (X.keeps F.keep), by subst hv; exact h _⟩
local macro_rules | `(tactic| walk_at "getMethod ref") => `(tactic| (k_here; k_dflt (refine' get_meth (by k_asm) (by k_in) ?_)))
local macro_rules | `(tactic| walk_at "call builtin:dict.get") => `(tactic| (k_here; k_dflt (refine' get_call (by k_asm) (by k_in) (by assumption) ?_); intro tk'))
theorem b1_c (w : World) (mean mg mb) (news : List (Addr × Obj)) (c : Nat) (tc : Tok) : KCy w mean mg mb 95 news [.str ⟨#[c]⟩ tc] (fun v news' => news' = news ∧ v = .bool (isB1 w.params c)) := by
  unfold KCy
  intros
  rename_i hret
  cell_enter
  try dsimp only [unw]
  k_steps
  all_goals exact hret _ _ _ _ ⟨rfl, rfl⟩ (by assumption) (by assumption) (gsub_end (by assumption) (by assumption))
theorem b3_some (w : World) (mean mg mb) (news : List (Addr × Obj)) (c : Nat) (tc : Tok) (x : Str) (tx : Tok) (hv : (findBy Value.isInt (ES w.params) (c : Int)).getD .none = .str x tx) : KCy w mean mg mb 141 news [.str ⟨#[c]⟩ tc] (fun v news' => news' = news ∧ v = .str x tx) := by
  unfold KCy
  intros
  rename_i hret
  cell_enter
  try dsimp only [unw]
  k_steps
  all_goals exact hret _ _ _ _ ⟨rfl, rfl⟩ (by assumption) (by assumption) (gsub_end (by assumption) (by assumption))
local macro_rules | `(tactic| walk_at "call builtin:str.lower") => `(tactic| (k_here; k_dflt (refine' SCL.lower (by exact Nat.le_of_ble_eq_true rfl) ?_); intro _))
theorem b3_none (w : World) (mean mg mb) (news : List (Addr × Obj)) (c : Nat) (tc : Tok) (hv : (findBy Value.isInt (ES w.params) (c : Int)).getD .none = .none) : KCy w mean mg mb 141 news [.str ⟨#[c]⟩ tc] (fun v news' => news' = news ∧ ∃ t, v = .str (Txt.lower ⟨#[c]⟩) t) := by
  unfold KCy
  intros
  rename_i hret
  cell_enter
  try dsimp only [unw]
  k_steps
  all_goals exact hret _ _ _ _ ⟨rfl, _, rfl⟩ (by assumption) (by assumption) (gsub_end (by assumption) (by assumption))
noncomputable def fold3 (P : Params) (c : Nat) : Str := match findBy Value.isInt (ES P) (c : Int) with | some (.str x _) => x | _ => Txt.lower ⟨#[c]⟩
theorem b3_c (w : World) (mean mg mb) (news : List (Addr × Obj)) (c : Nat) (tc : Tok) : KCy w mean mg mb 141 news [.str ⟨#[c]⟩ tc] (fun v news' => news' = news ∧ ∃ t, v = .str (fold3 w.params c) t) := by
  cases hf : findBy Value.isInt (ES w.params) (c : Int) with
  | none =>
    have e : fold3 w.params c = Txt.lower ⟨#[c]⟩ := by unfold fold3; rw [hf]
    rw [e]
    exact b3_none w mean mg mb news c tc (by rw [hf]; rfl)
  | some v =>
    have hk : ∃ x t, v = .str x t := by
      unfold findBy at hf
      rw [Option.map_eq_some_iff] at hf
      obtain ⟨e, he, rfl⟩ := hf
      have hm := Array.mem_of_find?_eq_some he
      have h := List.all_eq_true.mp (es_ok w.params) e (by simpa using hm)
      unfold entOk at h
      split at h
      · rename_i x u hv
        exact ⟨_, _, hv⟩
      · cases h
    obtain ⟨x, t, rfl⟩ := hk
    have e : fold3 w.params c = x := by unfold fold3; rw [hf]
    rw [e]
    have z := b3_some w mean mg mb news c tc x t (by rw [hf]; rfl)
    intro dp un gd cn cs a ccd cl outer A₀ base h₀ L m s R B F X N T hk d1 d2 hret
    exact z dp un gd cn cs a ccd cl outer A₀ base h₀ L m s R B F X N T hk d1 d2 fun v' h' tk' news' ho => hret v' h' tk' news' ⟨ho.1, t, ho.2⟩
end
section
open PySem PySem.W PySem.Calls PyProof.Rows PySem.Spec
set_option maxHeartbeats 2000000
noncomputable def Stand (g : Heap) (L : Addr) (m : Str → Option Value) (news : List (Addr × Obj)) (h : Heap) : Prop := Fr g L h m ∧ News g L h news
theorem Stand.keeps {g h h' : Heap} {L : Addr} {m : Str → Option Value} {news : List (Addr × Obj)} (S : Stand g L m news h) (k : ∀ b o, h.get? b = some o → h'.get? b = some o) : Stand g L m news h' :=
  ⟨⟨S.1.ns.at' fun o e => k _ _ e, fun b o e => k b o (S.1.keep b o e), S.1.above⟩, fun p hp => ⟨k _ _ (S.2 p hp).1, (S.2 p hp).2⟩⟩
structure Apart (g : Heap) (L : Addr) (news : List (Addr × Obj)) (I : Addr) : Prop where
  g : g.get? I = none
  l : I ≠ L
  n : ∀ p ∈ news, p.1 ≠ I
theorem Stand.but {g h h' : Heap} {L I : Addr} {m : Str → Option Value} {news : List (Addr × Obj)} (S : Stand g L m news h) (A : Apart g L news I) (k : ∀ b o, b ∉ [I] → h.get? b = some o → h'.get? b = some o) : Stand g L m news h' := by
  refine ⟨⟨S.1.ns.at' fun o e => k _ _ (by simpa using Ne.symm A.l) e, fun b o e => k b o ?_ (S.1.keep b o e), S.1.above⟩, fun p hp => ⟨k _ _ (by simpa using A.n p hp) (S.2 p hp).1, (S.2 p hp).2⟩⟩
  intro hb
  rw [List.mem_singleton.mp hb, A.g] at e
  cases e
theorem apart_new {g h : Heap} {L : Addr} {m : Str → Option Value} {news : List (Addr × Obj)} (S : Stand g L m news h) : Apart g L news h.objs.size :=
  ⟨Heap.get?_none_of_le (Nat.le_trans S.1.above (Nat.le_of_lt S.1.ns.lt)), Nat.ne_of_gt S.1.ns.lt, fun p hp => Nat.ne_of_lt (Heap.lt_size (S.2 p hp).1)⟩
section
variable {w : World} {A : Around} {E : Value → Shared → Prop} {s : Shared} {env : Env} {g : Heap} {L : Addr} {m : Str → Option Value} {news : List (Addr × Obj)}
theorem comp_core {elt iter : Expr} {x : Str} {px : Pos} {ifs : List Expr} {scope : Scope} {cl : List (Str × Addr)} {pos : Pos} {Q : Value → Shared → Prop} (p : Value → Bool) (F : Value → Value → Prop)
    (hclos : closureFor scope env = pure cl) (hcell : ∀ y ∈ scope.names, y.2 ≠ .cell) (hkind : scope.kind = .function)
    (hnames : ∀ y ∈ scope.names, y.2 = .local → scope.names.lookup y.1 = some .local) (hx : scope.names.lookup x = some .local)
    (h : wpAny (model pw w) A (eval iter env) (fun xv s₁ => wpAny (model pw w) A (pyIter xv) (fun it s₂ => ∃ I fp n P St, it = .ref I ∧ Walks pw w A I fp [I] n P St ∧ n ≤ sizeLine ∧ St 0 s₂.heap ∧ (∀ b ∈ fp, b < s₂.heap.objs.size) ∧
      Stand g L m news s₂.heap ∧ Apart g L news I ∧
      (∀ C i v s₃ m₃ E', P i v → s₃.heap.Ns C m₃ → m₃ x = some v → Stand g L m news s₃.heap →
        wpAny (model pw w) A (forIn ifs true fun c r => if r = true then do let ok ← isTrue c (compEnvC scope cl C env) (eval c (compEnvC scope cl C env)); pure (ForInStep.yield ok) else pure (ForInStep.yield r))
          (fun ok s₄ => ok = p v ∧ Keeps s₃ s₄) E' s₃) ∧
      (∀ C i v s₃ m₃ E', P i v → p v = true → s₃.heap.Ns C m₃ → m₃ x = some v → Stand g L m news s₃.heap →
        wpAny (model pw w) A (eval elt (compEnvC scope cl C env)) (fun y s₄ => F v y ∧ Keeps s₃ s₄) E' s₃) ∧
      (∀ D h' tk ys k (vs : List Value), Fr g L h' m → News g L h' ((D, PySem.W.listOf ys k) :: news) → (∀ q ∈ news, q.1 ≠ D) → vs.length = n → (∀ j v, vs[j]? = some v → P j v) → Paired F (vs.filter p) ys.toList → Q (.ref D) { s₂ with heap := h', toks := tk })) E s₁) E s)
    (hs : ∀ x, foldedSetIterable iter env x = pure x := by intro _; rfl) :
    wpAny (model pw w) A (eval (.ListComp elt [⟨.Name x px, iter, ifs, 0⟩] scope pos) env) Q E s := by
  refine wpAny_ListComp_free p F hclos hcell hkind hnames hx (wpAny_mono h (fun xv s₁ h₁ => wpAny_mono h₁ (fun it s₂ h₂ => ?_) fun _ _ e => e) fun _ _ e => e) hs
  obtain ⟨I, fp, n, P, St, rfl, W, hz, hst, hfp, S, Ap, ht, he, hQ⟩ := h₂
  refine ⟨I, fp, [I], n, P, St, rfl, W, hz, hst, hfp, ⟨?_, ?_⟩, ?_⟩
  · intro C i v s₃ m₃ E' _ hP hns hm hk _
    exact ht C i v s₃ m₃ E' hP hns hm (S.but Ap hk)
  · intro C i v s₃ m₃ E' _ hP hp hns hm hk _
    exact he C i v s₃ m₃ E' hP hp hns hm (S.but Ap hk)
  · intro D h' tk ys vs hD _ hpl hlen hP hF hk
    obtain ⟨k, hk'⟩ := hpl
    have S' := S.but Ap hk
    refine hQ D h' tk ys k vs S'.1 (fun q hq => ?_) (fun q hq e => ?_) hlen hP hF
    · rcases List.mem_cons.mp hq with rfl | hq
      · refine ⟨hk', ?_, ?_⟩
        · rintro rfl
          obtain ⟨o, _, _, e, _⟩ := S.1.ns
          rw [hD] at e; cases e
        · cases e : g.get? D with
          | none => rfl
          | some o => have := S.1.keep _ _ e; rw [hD] at this; cases this
      · exact S'.2 q hq
    · have := (S.2 q hq).1
      rw [e, hD] at this; cases this
theorem Stand.push {h : Heap} (S : Stand g L m news h) (o : Obj) : Stand g L m news (h.push o) := S.keeps fun _ _ e => Heap.get?_push_of_some _ e
theorem comp_str {elt iter : Expr} {x : Str} {px : Pos} {ifs : List Expr} {scope : Scope} {cl : List (Str × Addr)} {pos : Pos} {Q : Value → Shared → Prop} (p : Value → Bool) (F : Value → Value → Prop) (hh : A.handled = none) (tx : Str) (t : Tok)
    (hclos : closureFor scope env = pure cl) (hcell : ∀ y ∈ scope.names, y.2 ≠ .cell) (hkind : scope.kind = .function)
    (hnames : ∀ y ∈ scope.names, y.2 = .local → scope.names.lookup y.1 = some .local) (hx : scope.names.lookup x = some .local)
    (hi : ∀ Q' : Value → Shared → Prop, Q' (.str tx t) s → wpAny (model pw w) A (eval iter env) Q' E s) (hz : tx.cps.size ≤ sizeLine) (S : Stand g L m news s.heap)
    (ht : ∀ C i v s₃ m₃ E', SignAt tx i v → s₃.heap.Ns C m₃ → m₃ x = some v → Stand g L m news s₃.heap →
        wpAny (model pw w) A (forIn ifs true fun c r => if r = true then do let ok ← isTrue c (compEnvC scope cl C env) (eval c (compEnvC scope cl C env)); pure (ForInStep.yield ok) else pure (ForInStep.yield r))
          (fun ok s₄ => ok = p v ∧ Keeps s₃ s₄) E' s₃)
    (he : ∀ C i v s₃ m₃ E', SignAt tx i v → p v = true → s₃.heap.Ns C m₃ → m₃ x = some v → Stand g L m news s₃.heap →
        wpAny (model pw w) A (eval elt (compEnvC scope cl C env)) (fun y s₄ => F v y ∧ Keeps s₃ s₄) E' s₃)
    (hQ : ∀ D h' tk ys k (vs : List Value), Fr g L h' m → News g L h' ((D, PySem.W.listOf ys k) :: news) → (∀ q ∈ news, q.1 ≠ D) → vs.length = tx.cps.size → (∀ j v, vs[j]? = some v → SignAt tx j v) → Paired F (vs.filter p) ys.toList → Q (.ref D) { s with heap := h', toks := tk })
    (hs : ∀ x, foldedSetIterable iter env x = pure x := by intro _; rfl) :
    wpAny (model pw w) A (eval (.ListComp elt [⟨.Name x px, iter, ifs, 0⟩] scope pos) env) Q E s := by
  refine comp_core (g := g) (L := L) (m := m) (news := news) p F hclos hcell hkind hnames hx (hi _ (wpAny_pyIter_str fun o St W hst => ?_)) hs
  exact ⟨_, _, _, _, St, rfl, W A hh, hz, hst, by intro b hb; rw [List.mem_singleton.mp hb, Heap.size_push]; exact Nat.lt_succ_self _, S.push o, apart_new S, ht, he, fun D h' tk ys k vs a b c d e f => hQ D h' tk ys k vs a b c d e f⟩
theorem comp_list {elt iter : Expr} {x : Str} {px : Pos} {ifs : List Expr} {scope : Scope} {cl : List (Str × Addr)} {pos : Pos} {Q : Value → Shared → Prop} (p : Value → Bool) (F : Value → Value → Prop) (hh : A.handled = none) (l : Addr) (items : Array Value) (kl : Nat)
    (hclos : closureFor scope env = pure cl) (hcell : ∀ y ∈ scope.names, y.2 ≠ .cell) (hkind : scope.kind = .function)
    (hnames : ∀ y ∈ scope.names, y.2 = .local → scope.names.lookup y.1 = some .local) (hx : scope.names.lookup x = some .local)
    (hi : ∀ Q' : Value → Shared → Prop, Q' (.ref l) s → wpAny (model pw w) A (eval iter env) Q' E s) (hz : items.size ≤ sizeLine) (S : Stand g L m news s.heap) (hl : (l, PySem.W.listOf items kl) ∈ news)
    (ht : ∀ C (i : Nat) v s₃ m₃ E', items[i]? = some v → s₃.heap.Ns C m₃ → m₃ x = some v → Stand g L m news s₃.heap →
        wpAny (model pw w) A (forIn ifs true fun c r => if r = true then do let ok ← isTrue c (compEnvC scope cl C env) (eval c (compEnvC scope cl C env)); pure (ForInStep.yield ok) else pure (ForInStep.yield r))
          (fun ok s₄ => ok = p v ∧ Keeps s₃ s₄) E' s₃)
    (he : ∀ C (i : Nat) v s₃ m₃ E', items[i]? = some v → p v = true → s₃.heap.Ns C m₃ → m₃ x = some v → Stand g L m news s₃.heap →
        wpAny (model pw w) A (eval elt (compEnvC scope cl C env)) (fun y s₄ => F v y ∧ Keeps s₃ s₄) E' s₃)
    (hQ : ∀ D h' tk ys k (vs : List Value), Fr g L h' m → News g L h' ((D, PySem.W.listOf ys k) :: news) → (∀ q ∈ news, q.1 ≠ D) → vs = items.toList → Paired F (vs.filter p) ys.toList → Q (.ref D) { s with heap := h', toks := tk })
    (hs : ∀ x, foldedSetIterable iter env x = pure x := by intro _; rfl) :
    wpAny (model pw w) A (eval (.ListComp elt [⟨.Name x px, iter, ifs, 0⟩] scope pos) env) Q E s := by
  have hls := (S.2 _ hl).1
  have hlt := Heap.lt_size hls
  refine comp_core (g := g) (L := L) (m := m) (news := news) p F hclos hcell hkind hnames hx (hi _ (wpAny_pyIter_list (items := items) ⟨_, hls, rfl, _, rfl⟩ ?_)) hs
  refine ⟨_, _, _, _, _, rfl, Walks.list hh s.heap.objs.size l (Nat.ne_of_lt hlt) items, hz, ⟨⟨_, Heap.get?_push_size _ rfl, rfl, rfl⟩, ⟨_, Heap.get?_push_of_some _ hls, rfl, _, rfl⟩⟩, ?_, S.push _, apart_new S, ht, he, fun D h' tk ys k vs a b c d e f => hQ D h' tk ys k vs a b c ?_ f⟩
  · intro b hb
    rw [Heap.size_push]
    rcases List.mem_cons.mp hb with rfl | hb
    · exact Nat.lt_succ_self _
    · rw [List.mem_singleton.mp hb]; exact Nat.lt_succ_of_lt hlt
  · apply List.ext_getElem?
    intro j
    by_cases hj : j < vs.length
    · rw [List.getElem?_eq_getElem hj]
      have := e j vs[j] (List.getElem?_eq_getElem hj)
      rw [← this]; simp
    · rw [List.getElem?_eq_none (by omega), List.getElem?_eq_none (by rw [Array.length_toList]; omega)]
inductive RangePost (g : Heap) (L : Addr) (m : Str → Option Value) (news : List (Addr × Obj)) (a : Int) (n : Nat) (s : Shared) (v : Value) (s₁ : Shared) : Prop
  | mk (r : Addr) (h₁ : Heap) (tk₁ : Nat) (t u c : Tok) (q0 : v = .ref r) (q1 : s₁ = { s with heap := h₁, toks := tk₁ }) (q2 : IsRange h₁ r a (a + n) 1 t u c) (q3 : Stand g L m news h₁) : RangePost g L m news a n s v s₁
theorem comp_range {elt iter : Expr} {x : Str} {px : Pos} {ifs : List Expr} {scope : Scope} {cl : List (Str × Addr)} {pos : Pos} {Q : Value → Shared → Prop} (p : Value → Bool) (F : Value → Value → Prop) (hh : A.handled = none) (a : Int) (n : Nat)
    (hclos : closureFor scope env = pure cl) (hcell : ∀ y ∈ scope.names, y.2 ≠ .cell) (hkind : scope.kind = .function)
    (hnames : ∀ y ∈ scope.names, y.2 = .local → scope.names.lookup y.1 = some .local) (hx : scope.names.lookup x = some .local)
    (S₀ : Stand g L m news s.heap) (hi : wpAny (model pw w) A (eval iter env) (RangePost g L m news a n s) E s) (hz : n ≤ sizeLine) (hsm : Builtin.Range.small a (a + n) 1 = true)
    (ht : ∀ C (i : Nat) v s₃ m₃ E', (i < n ∧ ∃ t, v = .int (a + i) t) → s₃.heap.Ns C m₃ → m₃ x = some v → Stand g L m news s₃.heap →
        wpAny (model pw w) A (forIn ifs true fun c r => if r = true then do let ok ← isTrue c (compEnvC scope cl C env) (eval c (compEnvC scope cl C env)); pure (ForInStep.yield ok) else pure (ForInStep.yield r))
          (fun ok s₄ => ok = p v ∧ Keeps s₃ s₄) E' s₃)
    (he : ∀ C (i : Nat) v s₃ m₃ E', (i < n ∧ ∃ t, v = .int (a + i) t) → p v = true → s₃.heap.Ns C m₃ → m₃ x = some v → Stand g L m news s₃.heap →
        wpAny (model pw w) A (eval elt (compEnvC scope cl C env)) (fun y s₄ => F v y ∧ Keeps s₃ s₄) E' s₃)
    (hQ : ∀ D h' tk ys k (vs : List Value), Fr g L h' m → News g L h' ((D, PySem.W.listOf ys k) :: news) → (∀ q ∈ news, q.1 ≠ D) → vs.length = n → (∀ (j : Nat) v, vs[j]? = some v → ∃ t, v = .int (a + j) t) → Paired F (vs.filter p) ys.toList → Q (.ref D) { s with heap := h', toks := tk })
    (hs : ∀ x, foldedSetIterable iter env x = pure x := by intro _; rfl) :
    wpAny (model pw w) A (eval (.ListComp elt [⟨.Name x px, iter, ifs, 0⟩] scope pos) env) Q E s := by
  refine comp_core (g := g) (L := L) (m := m) (news := news) p F hclos hcell hkind hnames hx (wpAny_mono hi (fun v s₁ h₁ => ?_) fun _ _ e => e) hs
  obtain ⟨r, h₁, tk₁, t, u, c, rfl, rfl, hr, S⟩ := h₁
  refine wpAny_pyIter_range hr hsm ?_
  have hsz : Builtin.Range.rangeSize a (a + n) 1 = (n : Int) := by
    unfold Builtin.Range.rangeSize
    by_cases hn : n = 0
    · subst hn; simp
    · simp; omega
  have W := Walks.range (prog := pw) (w := w) hh h₁.objs.size a 1 n
  have W' : Walks pw w A h₁.objs.size [h₁.objs.size] [h₁.objs.size] n (fun i v => i < n ∧ ∃ t, v = .int (a + i) t) (fun i h => IsRangeIter h h₁.objs.size (a + (i : Nat) * 1) ((n : Int) - (i : Nat)) 1) :=
    { sub := W.sub, frame := W.frame, done := W.done, self := W.self, item := fun i s Q E hi st hQ => W.item i s Q E hi st fun v h' tk hv a b => hQ v h' tk ⟨hi, by simpa using hv⟩ a b }
  refine ⟨_, _, _, _, _, rfl, W', hz, ?_, ?_, S.push _, apart_new S, ht, he, fun D h' tk ys k vs a' b c d e f => hQ D h' tk ys k vs a' b c d (fun j v hj => (e j v hj).2) f⟩
  · show IsRangeIter _ _ _ _ _
    unfold IsRangeIter
    rw [Heap.get?_push_size _ rfl, hsz]
    simp
  · intro b hb; rw [List.mem_singleton.mp hb, Heap.size_push]; exact Nat.lt_succ_self _
end
end
section
open PySem PySem.W PySem.Calls PyProof.Rows PySem.Spec
set_option maxHeartbeats 2000000
noncomputable def Stop (P : Prop) : Prop := P
theorem stop_intro {P : Prop} (h : Stop P) : P := h
theorem pure_use {w : World} {mean : ExcName → Option Value} {mg mb : Str → Option Value} {f : Addr} {vs : List Value} {news : List (Addr × Obj)} {Ok : Value → Prop} (Cn : KCy w mean mg mb f news vs (fun v news' => news' = news ∧ Ok v))
    {dp un : Nat} {gd : Option (List Code)} {cn : Str} {cs : Scope} {a : Addr} {ccd : Value} {cl : List (Str × Addr)} {outer : List Env} {A₀ : Around} {base h₀ : Heap} {L : Addr} {m : Str → Option Value} {s : Shared} {Q E : Value → Shared → Prop}
    (B : Below A₀ base outer h₀) (F : Fr h₀ L s.heap m) (X : (K w.params).In h₀) (N : News h₀ L s.heap news) (T : Top tq lz mean mg mb h₀) (hk : cs.kind = .function) (hd : dp + 40 < recursionLimit) (hu : un + 400 < cLine)
    (h : ∀ v' h' tk', Ok v' → (∀ b o, s.heap.get? b = some o → h'.get? b = some o) → Q v' { s with heap := h', toks := tk' }) :
    wpAny (model pw w) (ktrTop dp un gd cn cs L a ccd cl outer) (call (.ref f) vs) Q E s := by
  refine wpAny_call (Cn dp un gd cn cs a ccd cl outer A₀ base h₀ L m s _ B F X N T hk hd hu ?_)
  rintro v' h' tk' news' ⟨rfl, ok⟩ F' N' G
  refine h v' h' tk' ok fun b o e => ?_
  by_cases hb : b ∈ news'.map (·.1)
  · obtain ⟨p, hp, rfl⟩ := List.mem_map.mp hb
    have h1 := (N p hp).1
    rw [e] at h1; cases h1
    exact (N' p hp).1
  · exact G b o e hb
theorem sub_str {w : World} {A : Around} {E : Value → Shared → Prop} {s : Shared} {x : Str} {i : Int} {t tx : Tok} {c : Nat} {value slice : PySem.Expr} {Q : Value → Shared → Prop}
    (hx : (decide (i < -(2 ^ 63 : Int)) || decide (i ≥ 2 ^ 63)) = false ∧ (seqIndex? i x.length).bind (x.cps[·]?) = some c) (hs : subscripted slice false (.str x tx) (.int i t) = operate [.str x tx, .int i t] (getItem (.str x tx) (.int i t))) (ht : ∀ r, letTemporaryGo value (.str x tx) r = pure ()) (h : ∀ t' tk', Q (.str ⟨#[c]⟩ t') { s with toks := tk' }) :
    wpAny (model pw w) A (subscriptTail value slice (.str x tx) (.int i t)) Q E s :=
  subscriptTail_builtin (T := "str") (typeIs_str s x tx) PySem.F.slot_str_getitem.lookup (PyProof.Rows.getItem_str hx.1 hx.2 (h _ _)) hs ht
theorem sub_list {w : World} {A : Around} {E : Value → Shared → Prop} {s : Shared} {g : Heap} {L l : Addr} {news : List (Addr × Obj)} {items : Array Value} {kl : Nat} {i : Int} {t : Tok} {x : Value} {value slice : PySem.Expr} {Q : Value → Shared → Prop} (N : News g L s.heap news) (hm : (l, PySem.W.listOf items kl) ∈ news)
    (hx : 0 ≤ i ∧ i < 2 ^ 63 ∧ items[i.toNat]? = some x) (hs : subscripted slice false (.ref l) (.int i t) = operate [.ref l, .int i t] (getItem (.ref l) (.int i t))) (ht : ∀ r, letTemporaryGo value (.ref l) r = pure ()) (h : Q x s) :
    wpAny (model pw w) A (subscriptTail value slice (.ref l) (.int i t)) Q E s :=
  subscriptTail_builtin (T := "list") ⟨_, (N _ hm).1, rfl⟩ PySem.F.slot_list_getitem.lookup (wpAny_getItem_list ⟨_, (N _ hm).1, rfl, _, rfl⟩ hx.1 hx.2.1 hx.2.2 h) hs ht
theorem bools_of {P : Params} : ∀ {vs ys : List Value} {cs : List Nat}, vs.length = cs.length → (∀ (j : Nat) (v : Value), vs[j]? = some v → ∃ c u, cs[j]? = some c ∧ v = Value.str ⟨#[c]⟩ u) →
    Paired (fun v y => ∃ c u, v = Value.str ⟨#[c]⟩ u ∧ y = Value.bool (isB1 P (c : Nat))) vs ys → ys = cs.map fun c => Value.bool (isB1 P (c : Nat))
  | [], [], [], _, _, _ => rfl
  | [], _ :: _, _, _, _, h => by cases h
  | [], [], _ :: _, h, _, _ => by cases h
  | _ :: _, [], _, _, _, h => by cases h
  | _ :: _, _ :: _, [], h, _, _ => by cases h
  | v :: vs, y :: ys, c :: cs, hl, hP, h => by
    cases h with
    | cons h1 h2 =>
      obtain ⟨c', u, e1, e2⟩ := h1
      obtain ⟨c2, u2, e3, e4⟩ := hP 0 v rfl
      have e5 : c = c2 := by simpa using e3
      subst e5
      rw [e1] at e4
      have e6 : c' = c := by
        injection e4 with e4
        injection e4 with e4
        simpa using e4
      subst e6
      rw [List.map_cons, ← e2, ← bools_of (by simpa using hl) (fun j v' hj => by simpa using hP (j + 1) v' (by simpa using hj)) h2]
noncomputable def shortE (e : DictEntry) : Bool := match e.val with | .str x _ => x.cps.size ≤ 8 | _ => true
theorem es_short (P : Params) : (ES P).toList.all shortE = true := by kernel_rfl
theorem fold3_len (P : Params) (c : Nat) : (fold3 P c).length ≤ 8 := by
  unfold fold3
  split
  · rename_i x t hf
    unfold findBy at hf
    rw [Option.map_eq_some_iff] at hf
    obtain ⟨e, he, hv⟩ := hf
    have hm := Array.mem_of_find?_eq_some he
    have h := List.all_eq_true.mp (es_short P) e (by simpa using hm)
    unfold shortE at h
    rw [hv] at h
    exact of_decide_eq_true h
  · have := PyProof.Rows.len_lower (⟨#[c]⟩ : Str)
    have e : (⟨#[c]⟩ : Str).length = 1 := rfl
    rw [e] at this
    omega
noncomputable def prepL (P : Params) (cs : List Nat) : List Str := (cs.filter fun c => !(isB1 P (c : Nat))).map (fold3 P)
theorem prepL_weight (P : Params) (cs : List Nat) : ((prepL P cs).map (·.length)).sum + (prepL P cs).length ≤ 9 * cs.length := by
  induction cs with
  | nil => simp [prepL]
  | cons c cs ih =>
    unfold prepL at ih ⊢
    rw [List.filter_cons]
    split
    · simp only [List.map_cons, List.sum_cons, List.length_cons]
      have := fold3_len P c
      omega
    · rw [List.length_cons]; omega
theorem strs_of {P : Params} : ∀ (cs cs₀ : List Nat) (k : Nat) (vs ys : List Value), cs₀.drop k = cs → vs.length = cs.length → (∀ (j : Nat) v, vs[j]? = some v → ∃ t : Tok, v = .int (0 + ((k + j : Nat) : Int)) t) →
    Paired (fun v y => ∃ (i : Int) (ti u : Tok), v = .int i ti ∧ y = Value.str (fold3 P (cs₀.getD i.toNat 0)) u) (vs.filter fun v => match v with | .int i _ => !(isB1 P (cs₀.getD i.toNat 0 : Nat)) | _ => false) ys → StrsAre ys (prepL P cs)
  | [], _, _, [], ys, _, _, _, h => by cases h; exact .nil
  | [], _, _, _ :: _, _, _, h, _, _ => by cases h
  | _ :: _, _, _, [], _, _, h, _, _ => by cases h
  | c :: cs, cs₀, k, v :: vs, ys, hd, hl, hv, h => by
    obtain ⟨t, e0⟩ := hv 0 v rfl
    have hc : cs₀.getD k 0 = c := by
      rw [List.getD_eq_getElem?_getD]
      have : (cs₀.drop k)[0]? = some c := by rw [hd]; rfl
      rw [List.getElem?_drop] at this
      simp at this
      rw [this]; rfl
    have e1 : v = .int (k : Int) t := by rw [e0]; simp
    have hd' : cs₀.drop (k + 1) = cs := by
      rw [← List.drop_drop, hd]; rfl
    have hv' : ∀ (j : Nat) v, vs[j]? = some v → ∃ t : Tok, v = .int (0 + ((k + 1 + j : Nat) : Int)) t := by
      intro j v' hj
      have := hv (j + 1) v' (by simpa using hj)
      rw [show k + 1 + j = k + (j + 1) by omega]; exact this
    have hl' : vs.length = cs.length := by simpa using hl
    subst e1
    rw [List.filter_cons] at h
    unfold prepL
    rw [List.filter_cons]
    simp only [Int.toNat_natCast, hc] at h
    split at h
    · rename_i hb
      rw [if_pos hb, List.map_cons]
      cases h with
      | cons a b =>
        obtain ⟨i, ti, u, e2, e3⟩ := a
        cases e2
        rw [e3]
        simp only [Int.toNat_natCast, hc]
        exact .cons _ _ (strs_of cs cs₀ (k + 1) vs _ hd' hl' hv' b)
    · rename_i hb
      rw [if_neg hb]
      exact strs_of cs cs₀ (k + 1) vs ys hd' hl' hv' h
theorem join_led {w : World} {A : Around} {E : Value → Shared → Prop} {s : Shared} {g : Heap} {L D : Addr} {news : List (Addr × Obj)} {x : Str} {t : Tok} {items : Array Value} {k : Nat} {ys : List Str} {Q : Value → Shared → Prop} (N : News g L s.heap news) (hm : (D, PySem.W.listOf items k) ∈ news) (hi : StrsAre items.toList ys)
    (hsep : x.length ≤ 16) (hw : (ys.map (·.length)).sum + ys.length ≤ 1048576) (h : ∀ t' k, Q (.str (Txt.join x ys) t') { s with toks := k }) : wpAny (model pw w) A (call (.builtin "str.join") [.str x t, .ref D]) Q E s :=
  join_listW ⟨_, (N _ hm).1, rfl, _, rfl⟩ hi hsep hw h
end
section
open PySem PySem.W PySem.Calls PyProof.Rows PySem.Spec
set_option maxHeartbeats 2000000
local macro_rules | `(tactic| kpc_none) => `(tactic| grind)
local macro_rules | `(tactic| walk_at "call ref") => `(tactic| (k_here; k_dflt (refine' pure_use (b1_c _ _ _ _ _ _ _) (by k_asm) (by k_asm) (by k_asm) (by k_asm) (by k_asm) rfl (by k_room) (by k_units) ?_; k_whole); intro v' h' tk' hok hkeep))
local macro_rules | `(tactic| walk_at "subscriptTail Name") => `(tactic| (k_here; k_dflt (refine' sub_list (by k_asm) (by k_mem) (by assumption) (by with_unfolding_all rfl) (by (intro _; with_unfolding_all rfl)) ?_)))
local macro_rules | `(tactic| walk_at "subscriptTail") => `(tactic| (k_here; k_dflt (refine' sub_list (by k_asm) (by k_mem) (by assumption) (by with_unfolding_all rfl) (by (intro _; with_unfolding_all rfl)) ?_)))
local macro_rules | `(tactic| walk_at "call builtin:len") => `(tactic| ((with_reducible show wpAny _ _ (call (Value.builtin "len") [Value.str _ _]) _ _ _); refine SBL.len (by assumption) ?_))
local macro_rules | `(tactic| walk_at "eval ListComp") => `(tactic| (k_here; refine stop_intro ?_))
local macro_rules | `(tactic| walk_at "call ref") => `(tactic| (k_here; k_dflt (refine' pure_use (b3_c _ _ _ _ _ _ _) (by k_asm) (by k_asm) (by k_asm) (by k_asm) (by k_asm) rfl (by k_room) (by k_units) ?_; k_whole); intro v' h' tk' hok hkeep; (obtain ⟨t', he'⟩ := hok)))
local macro_rules | `(tactic| walk_at "subscriptTail Name Name str int") => `(tactic| (k_here; k_dflt (refine' sub_str (by assumption) (by with_unfolding_all rfl) (by (intro _; with_unfolding_all rfl)) ?_); intro t' tk'))
local macro_rules | `(tactic| walk_at "call builtin:str.join") => `(tactic| (k_here; k_dflt (refine' join_led (by k_asm) (by k_mem) (by assumption) (by decide) (by assumption) ?_); intro t' tk'))
theorem prep_c (w : World) (mean mg mb) (more : List (Addr × Obj)) (x : Str) (tc : Tok) (hx : x.cps.size ≤ 1000) : KCz w mean mg mb 181 more [.str x tc] (fun v news' => news' = more ∧ ∃ t, v = .str (Txt.join Str.empty (prepL w.params x.cps.toList)) t) := by
  have hfl63 : (x.length : Int) < 9223372036854775808 := by
    have : x.length = x.cps.size := rfl
    rw [this]; omega
  unfold KCz
  intros
  rename_i hret
  refine' code_defC ?k1 ?k2 ?k3 ?k4 ?k5 ?kA ?kF ?kK ?k6 ?k7 ?k8 ?k9 ?kB ?kD ?_ ?c2 ?c3 ?c4; (case kA => exact rfl); (case kF => exact rfl); (case kK => assumption); (case k1 => k_asm); (case k2 => k_asm); (case k3 => k_asm); (case k4 => k_asm); (case k5 => k_asm); (case k6 => k_is); (case k7 => k_is); (case k8 => ktr_room); (case k9 => exact BindsTo.of_eq rfl); (case kB => exact rfl); (case kD => decide +kernel); (case c2 => exact rfl); (case c3 => exact rfl); (case c4 => exact rfl); k_whole; intro g' L' h' tk' cells' FG' F' N' Y' B' X' T' l1; (have hML : MoreBelow more L' := l1); (try k_lt l1); k_cells Y'; (try simp only [List.cons_append, List.nil_append] at N'); (try dsimp only); (try k_lift B'); (try k_fold)
  k_steps
  have S8 : Stand g' L' _ _ h' := ⟨by assumption, N'⟩
  show wpAny _ _ (eval (Expr.ListComp _ _ _ _) _) _ _ _
  refine' comp_str (g := g') (L := L') (news := _) (fun _ => true) (fun v y => ∃ c u, v = .str ⟨#[c]⟩ u ∧ y = .bool (isB1 w.params c)) rfl x tc ?clos ?cell ?kind ?names ?x ?hi ?hz S8 ?ht ?he ?hQ
  case clos => rfl
  case cell => decide +kernel
  case kind => rfl
  case names => decide +kernel
  case x => decide +kernel
  case hz => rw [sizeLine_eq]; omega
  case hi =>
    intro Q' hq
    k_steps
    all_goals exact hq
  case ht =>
    intro C i v s₃ m₃ E' hv hns hm S
    simp only [List.forIn_nil]
    exact wpAny_pure ⟨rfl, _, _, rfl, fun _ _ e => e⟩
  case he =>
    intro C i v s₃ m₃ E' hv _ hns hm S
    obtain ⟨F8, N8⟩ := S
    obtain ⟨c, u, hc, rfl⟩ := hv
    k_steps
    exact ⟨_, _, rfl, by assumption⟩
  case hQ =>
    intro D h1 tk1 ys k1 vs F1 N1 hne hlen hP hF
    rw [List.filter_eq_self.mpr (fun _ _ => rfl)] at hF
    have hys := bools_of (cs := x.cps.toList) (by simpa using hlen) (fun j v hj => by obtain ⟨c, u, e1, e2⟩ := hP j v hj; exact ⟨c, u, by simpa using e1, e2⟩) hF
    have hn1 : @Ne Nat (L' + 1 + 1) D := hne _ (.head _)
    have hn2 : @Ne Nat (L' + 1) D := hne _ (.tail _ (.head _))
    have hn3 : ∀ p ∈ more, p.1 ≠ D := fun p hp => hne p (.tail _ (.tail _ hp))
    k_steps
    rename_i o1 o2 _ _ _ h2 _ F2 N2 d2
    have S2 : Stand g' L' _ _ h2 := ⟨F2, N2⟩
    show wpAny _ _ (eval (Expr.ListComp _ _ _ _) _) _ _ _
    refine' comp_list (g := g') (L := L') (news := _) (fun v => match v with | .bool _ => false | _ => true) (fun v y => v = y) rfl D ys k1 ?clos ?cell ?kind ?names ?x ?hi ?hz S2 (List.Mem.head _) ?ht ?he ?hQ
    case clos => rfl
    case cell => decide +kernel
    case kind => rfl
    case names => decide +kernel
    case x => decide +kernel
    case hz =>
      have := congrArg List.length hys
      simp only [Array.length_toList, List.length_map] at this
      rw [this, sizeLine_eq]; omega
    case hi =>
      intro Q' hq
      k_steps
      all_goals exact hq
    case ht =>
      intro C i v s₃ m₃ E' hv hns hm S
      obtain ⟨F8, N8⟩ := S
      have hb : ∃ b, v = .bool b := by
        have hm : v ∈ ys.toList := by simpa using Array.mem_of_getElem? hv
        rw [hys] at hm
        obtain ⟨c, _, rfl⟩ := List.mem_map.mp hm
        exact ⟨_, rfl⟩
      obtain ⟨b, rfl⟩ := hb
      refine wpAny_tests_one ?_
      cases b
      · k_steps
        exact ⟨_, _, rfl, fun _ _ e => e⟩
      · k_steps
        exact ⟨_, _, rfl, fun _ _ e => e⟩
    case he =>
      intro C i v s₃ m₃ E' hv hp hns hm S
      have hm : v ∈ ys.toList := by simpa using Array.mem_of_getElem? hv
      rw [hys] at hm
      obtain ⟨c, _, rfl⟩ := List.mem_map.mp hm
      cases hp
    case hQ =>
      intro D2 h3 tk3 ys3 k3 vs3 F3 N3 hne3 hvs hF3
      have hnil : ys3 = #[] := by
        rw [hvs, hys, List.filter_eq_nil_iff.mpr (by intro v hv; obtain ⟨c, _, rfl⟩ := List.mem_map.mp hv; simp)] at hF3
        cases h9 : ys3.toList with
        | nil => exact Array.toList_eq_nil_iff.mp h9
        | cons a b => rw [h9] at hF3; cases hF3
      subst hnil
      have hm1 : @Ne Nat D D2 := hne3 _ (.head _)
      have hm2 : @Ne Nat (L' + 1 + 1) D2 := hne3 _ (.tail _ (.head _))
      have hm3 : @Ne Nat (L' + 1) D2 := hne3 _ (.tail _ (.tail _ (.head _)))
      k_steps
      rename_i l4 h4 F4 N4 l14
      have S4 : Stand g' L' _ _ h4 := ⟨F4, N4⟩
      show wpAny _ _ (eval (Expr.ListComp _ _ _ _) _) _ _ _
      refine' comp_range (g := g') (L := L') (news := _) (fun v => match v with | .int i _ => !(isB1 w.params (x.cps.toList.getD i.toNat 0 : Nat)) | _ => false) (fun v y => ∃ (i : Int) (ti u : Tok), v = .int i ti ∧ y = .str (fold3 w.params (x.cps.toList.getD i.toNat 0)) u) rfl 0 x.cps.size ?clos ?cell ?kind ?names ?x S4 ?hi ?hz ?hsm ?ht ?he ?hQ
      case clos => rfl
      case cell => decide +kernel
      case kind => rfl
      case names => decide +kernel
      case x => decide +kernel
      case hz => rw [sizeLine_eq]; omega
      case hsm => exact small_one (by omega) (by omega) (by omega) (by omega)
      case hi =>
        k_steps
        exact ⟨_, _, _, _, _, _, rfl, rfl, by simpa using (by assumption : IsRange _ _ _ _ _ _ _ _), by assumption, by assumption⟩
      case ht =>
        intro C i v s₃ m₃ E' hv hns hm S
        obtain ⟨hv1, t1, rfl⟩ := hv
        obtain ⟨F8, N8⟩ := S
        refine wpAny_tests_one ?_
        have hgi : (0 : Int) ≤ 0 + (i : Int) ∧ 0 + (i : Int) < 2 ^ 63 ∧ ys[(0 + (i : Int)).toNat]? = some (Value.bool (isB1 w.params (x.cps.toList.getD (0 + (i : Int)).toNat 0 : Nat))) := by
          have e9 : (0 + (i : Int)).toNat = i := by omega
          rw [e9]
          refine ⟨by omega, by omega, ?_⟩
          rw [← Array.getElem?_toList, hys, List.getElem?_map, List.getD_eq_getElem?_getD]
          have : i < x.cps.toList.length := by simpa using hv1
          rw [List.getElem?_eq_getElem this]
          rfl
        iterate 8 (first | (k_unfold; (try dsimp only)) | walk1 | (dsimp only; walk1))
        refine ⟨?_, _, _, rfl, fun _ _ e => e⟩
        show _ = !(isB1 w.params (x.cps.toList.getD (0 + (i : Int)).toNat 0 : Nat))
        cases isB1 w.params (x.cps.toList.getD (0 + (i : Int)).toNat 0 : Nat) <;> rfl
      case he =>
        intro C i v s₃ m₃ E' hv hp hns hm S
        obtain ⟨hv1, t1, rfl⟩ := hv
        obtain ⟨F8, N8⟩ := S
        have hgi : (decide (0 + (i : Int) < -(2 ^ 63 : Int)) || decide (0 + (i : Int) ≥ 2 ^ 63)) = false ∧ (seqIndex? (0 + (i : Int)) x.length).bind (x.cps[·]?) = some (x.cps.toList.getD (0 + (i : Int)).toNat 0) := by
          have e9 : (0 + (i : Int)).toNat = i := by omega
          rw [e9]
          have hi9 : i < x.cps.size := hv1
          refine ⟨?_, ?_⟩
          · rw [Bool.or_eq_false_iff]
            exact ⟨decide_eq_false (by omega), decide_eq_false (by omega)⟩
          · have : seqIndex? (0 + (i : Int)) x.length = some i := by
              have hl9 : x.length = x.cps.size := rfl
              unfold seqIndex?
              rw [hl9]
              simp
              omega
            rw [this, List.getD_eq_getElem?_getD]
            simp [hi9]
        iterate 14 (try (first | (k_unfold; (try dsimp only)) | walk1 | (dsimp only; walk1)))
        · exact ⟨_, _, _, rfl, by assumption⟩
        · exact ⟨_, _, rfl, by assumption⟩
      case hQ =>
        intro D5 h5 tk5 ys5 k5 vs5 F5 N5 hne5 hl5 hv5 hF5
        have hst5 : StrsAre ys5.toList (prepL w.params x.cps.toList) := strs_of x.cps.toList x.cps.toList 0 vs5 ys5.toList rfl (by simpa using hl5) (by simpa using hv5) hF5
        have hw5 : ((prepL w.params x.cps.toList).map (·.length)).sum + (prepL w.params x.cps.toList).length ≤ 1048576 := by
          have := prepL_weight w.params x.cps.toList
          simp only [Array.length_toList] at this
          omega
        have hp1 : @Ne Nat D2 D5 := hne5 _ (.tail _ (.head _))
        have hp2 : @Ne Nat D D5 := hne5 _ (.tail _ (.tail _ (.head _)))
        k_steps
        all_goals exact hret _ _ _ more ⟨rfl, _, rfl⟩ (by assumption) (fun q hq => (by assumption : News _ _ _ _) q (by repeat (first | exact hq | apply List.Mem.tail)))
end
section
open PySem PySem.W PySem.Calls PyProof.Rows PySem.Spec
set_option maxHeartbeats 2000000
theorem ints_at : ∀ {vs : List Value} {ns : List Int} {i : Nat}, IntsAre vs ns → i < ns.length → ∃ t, vs[i]? = some (.int (ns.getD i 0) t)
  | _, _, 0, .cons n t _, _ => ⟨t, rfl⟩
  | _, _, i + 1, .cons n t h, hi => by
    obtain ⟨t', e⟩ := ints_at (i := i) h (by simpa using hi)
    exact ⟨t', by simpa using e⟩
theorem strs_at : ∀ {vs : List Value} {ns : List Str} {i : Nat}, StrsAre vs ns → i < ns.length → ∃ t, vs[i]? = some (.str (ns.getD i Str.empty) t)
  | _, _, 0, .cons n t _, _ => ⟨t, rfl⟩
  | _, _, i + 1, .cons n t h, hi => by
    obtain ⟨t', e⟩ := strs_at (i := i) h (by simpa using hi)
    exact ⟨t', by simpa using e⟩
theorem sub_ints {w : World} {A : Around} {E : Value → Shared → Prop} {s : Shared} {g : Heap} {L l : Addr} {news : List (Addr × Obj)} {items : Array Value} {ns : List Int} {kl : Nat} {i : Int} {t : Tok} {value slice : PySem.Expr} {Q : Value → Shared → Prop} (N : News g L s.heap news) (hm : (l, PySem.W.listOf items kl) ∈ news)
    (hi : IntsAre items.toList ns) (hb : 0 ≤ i ∧ i < 1000000 ∧ i.toNat < ns.length) (hs : subscripted slice false (.ref l) (.int i t) = operate [.ref l, .int i t] (getItem (.ref l) (.int i t))) (ht : ∀ r, letTemporaryGo value (.ref l) r = pure ()) (h : ∀ t', Q (.int (ns.getD i.toNat 0) t') s) :
    wpAny (model pw w) A (subscriptTail value slice (.ref l) (.int i t)) Q E s := by
  obtain ⟨t', e⟩ := ints_at hi hb.2.2
  exact sub_list N hm ⟨hb.1, by omega, by rw [← Array.getElem?_toList]; exact e⟩ hs ht (h t')
noncomputable def hidL : List Int := [173, 847, 6150, 6155, 6156, 6157, 8203, 8204, 8205, 8288, 65279]
noncomputable def hidS (k : Int) : Nat := if k < 11 then (hidL.getD k.toNat 0).toNat else (65013 + k).toNat
noncomputable def besL : List Int := [172, 174, 846, 848, 6149, 6151, 6154, 6158, 8202, 8206, 8287, 8289, 65023, 65040, 65278, 65280]
noncomputable def besS (k : Int) : Nat := (besL.getD k.toNat 0).toNat
theorem lt_y (w : World) (mean mg mb) (news : List (Addr × Obj)) (x y : Int) (tx ty : Tok) : KCy w mean mg mb 63 news [.int x tx, .int y ty] (fun v news' => news' = news ∧ v = .bool (decide (x < y))) := by
  unfold KCy
  intros
  rename_i hret
  cell_enter
  try dsimp only [unw]
  k_steps
  all_goals exact hret _ _ _ _ ⟨rfl, rfl⟩ (by assumption) (by assumption) (gsub_end (by assumption) (by assumption))
theorem add_y (w : World) (mean mg mb) (news : List (Addr × Obj)) (x y : Int) (tx ty : Tok) : KCy w mean mg mb 70 news [.int x tx, .int y ty] (fun v news' => news' = news ∧ ∃ t, v = .int (x + y) t) := by
  unfold KCy
  intros
  rename_i hret
  cell_enter
  try dsimp only [unw]
  k_steps
  all_goals exact hret _ _ _ _ ⟨rfl, _, rfl⟩ (by assumption) (by assumption) (gsub_end (by assumption) (by assumption))
theorem sub_y (w : World) (mean mg mb) (news : List (Addr × Obj)) (x y : Int) (tx ty : Tok) : KCy w mean mg mb 77 news [.int x tx, .int y ty] (fun v news' => news' = news ∧ ∃ t, v = .int (x - y) t) := by
  unfold KCy
  intros
  rename_i hret
  cell_enter
  try dsimp only [unw]
  k_steps
  all_goals exact hret _ _ _ _ ⟨rfl, _, rfl⟩ (by assumption) (by assumption) (gsub_end (by assumption) (by assumption))
local macro_rules | `(tactic| walk_at "subscriptTail") => `(tactic| (k_here; k_dflt (refine' sub_ints (by k_asm) (by k_mem) (by (repeat' (first | exact IntsAre.nil | refine IntsAre.cons _ _ ?_))) (by (refine ⟨by omega, by omega, ?_⟩; (simp only [List.length_cons, List.length_nil]); omega)) (by with_unfolding_all rfl) (by (intro _; with_unfolding_all rfl)) ?_); intro t'))
theorem getD_chr {l : List Int} (h : l.all (fun x => decide (0 ≤ x) && decide (x ≤ 0x10FFFF)) = true) (i : Nat) : (decide (l.getD i 0 < 0) || decide (l.getD i 0 > 0x10FFFF)) = false := by
  have : 0 ≤ l.getD i 0 ∧ l.getD i 0 ≤ 0x10FFFF := by
    rw [List.getD_eq_getElem?_getD]
    cases e : l[i]? with
    | none => simp
    | some x =>
      have := List.all_eq_true.mp h x (List.mem_of_getElem? e)
      simpa using this
  rw [Bool.or_eq_false_iff]
  exact ⟨decide_eq_false (by omega), decide_eq_false (by omega)⟩
local macro_rules | `(tactic| walk_at "call builtin:chr") => `(tactic| ((with_reducible show wpAny _ _ (call (Value.builtin "chr") [Value.int (List.getD _ _ _) _]) _ _ _); refine P.chr_of_int (by assumption) ?_))
theorem hid_y (w : World) (mean mg mb) (news : List (Addr × Obj)) (k : Int) (tk : Tok) (h0 : 0 ≤ k) (h1 : k < 27) : KCx w mean mg mb 155 news [.int k tk] (fun v news' => news' = news ∧ ∃ t, v = .str ⟨#[hidS k]⟩ t) := by
  have hch := getD_chr (l := hidL) (by decide) k.toNat
  unfold KCx
  intros
  rename_i hret
  cell_enter
  try dsimp only [unw]
  k_steps
  all_goals (refine hret _ _ _ _ ⟨rfl, ?_⟩ (by assumption) (by first | assumption | exact fun q hq => (by assumption : News _ _ _ _) q (by repeat (first | exact hq | apply List.Mem.tail))) (gsub_end (by assumption) (by assumption)))
  · unfold hidS
    rw [if_pos (by assumption)]
    exact ⟨_, rfl⟩
  · unfold hidS
    rw [if_neg (by assumption)]
    exact ⟨_, rfl⟩
theorem bes_y (w : World) (mean mg mb) (news : List (Addr × Obj)) (k : Int) (tk : Tok) (h0 : 0 ≤ k) (h1 : k < 16) : KCx w mean mg mb 162 news [.int k tk] (fun v news' => news' = news ∧ ∃ t, v = .str ⟨#[besS k]⟩ t) := by
  have hch := getD_chr (l := besL) (by decide) k.toNat
  unfold KCx
  intros
  rename_i hret
  cell_enter
  try dsimp only [unw]
  k_steps
  all_goals (refine hret _ _ _ _ ⟨rfl, _, rfl⟩ (by assumption) (by first | assumption | exact fun q hq => (by assumption : News _ _ _ _) q (by repeat (first | exact hq | apply List.Mem.tail))) (gsub_end (by assumption) (by assumption)))
theorem KCx.toKCy {w : World} {mean : ExcName → Option Value} {mg mb : Str → Option Value} {f : Addr} {news : List (Addr × Obj)} {vs : List Value} {Ok : Value → List (Addr × Obj) → Prop} (c : KCx w mean mg mb f news vs Ok) : KCy w mean mg mb f news vs Ok :=
  fun dp un gd cn cs a ccd cl outer A₀ base h₀ L m s R B F X N T hk hd hu hr => c dp un gd cn cs a ccd cl outer A₀ base h₀ L m s R B F X N T hk (by omega) (by omega) hr
theorem pure_useX {w : World} {mean : ExcName → Option Value} {mg mb : Str → Option Value} {f : Addr} {vs : List Value} {news : List (Addr × Obj)} {Ok : Value → Prop} (Cn : KCx w mean mg mb f news vs (fun v news' => news' = news ∧ Ok v))
    {dp un : Nat} {gd : Option (List Code)} {cn : Str} {cs : Scope} {a : Addr} {ccd : Value} {cl : List (Str × Addr)} {outer : List Env} {A₀ : Around} {base h₀ : Heap} {L : Addr} {m : Str → Option Value} {s : Shared} {Q E : Value → Shared → Prop}
    (B : Below A₀ base outer h₀) (F : Fr h₀ L s.heap m) (X : (K w.params).In h₀) (N : News h₀ L s.heap news) (T : Top tq lz mean mg mb h₀) (hk : cs.kind = .function) (hd : dp + 20 < recursionLimit) (hu : un + 200 < cLine)
    (h : ∀ v' h' tk', Ok v' → Fr h₀ L h' m → News h₀ L h' news → GSub s.heap h' (news.map (·.1)) → Q v' { s with heap := h', toks := tk' }) :
    wpAny (model pw w) (ktrTop dp un gd cn cs L a ccd cl outer) (call (.ref f) vs) Q E s := by
  refine wpAny_call (Cn dp un gd cn cs a ccd cl outer A₀ base h₀ L m s _ B F X N T hk hd hu ?_)
  rintro v' h' tk' news' ⟨rfl, ok⟩ F' N' G
  exact h v' h' tk' ok F' N' G
theorem pure_useY {w : World} {mean : ExcName → Option Value} {mg mb : Str → Option Value} {f : Addr} {vs : List Value} {news : List (Addr × Obj)} {Ok : Value → Prop} (Cn : KCy w mean mg mb f news vs (fun v news' => news' = news ∧ Ok v))
    {dp un : Nat} {gd : Option (List Code)} {cn : Str} {cs : Scope} {a : Addr} {ccd : Value} {cl : List (Str × Addr)} {outer : List Env} {A₀ : Around} {base h₀ : Heap} {L : Addr} {m : Str → Option Value} {s : Shared} {Q E : Value → Shared → Prop}
    (B : Below A₀ base outer h₀) (F : Fr h₀ L s.heap m) (X : (K w.params).In h₀) (N : News h₀ L s.heap news) (T : Top tq lz mean mg mb h₀) (hk : cs.kind = .function) (hd : dp + 40 < recursionLimit) (hu : un + 400 < cLine)
    (h : ∀ v' h' tk', Ok v' → Fr h₀ L h' m → News h₀ L h' news → GSub s.heap h' (news.map (·.1)) → Q v' { s with heap := h', toks := tk' }) :
    wpAny (model pw w) (ktrTop dp un gd cn cs L a ccd cl outer) (call (.ref f) vs) Q E s := by
  refine wpAny_call (Cn dp un gd cn cs a ccd cl outer A₀ base h₀ L m s _ B F X N T hk hd hu ?_)
  rintro v' h' tk' news' ⟨rfl, ok⟩ F' N' G
  exact h v' h' tk' ok F' N' G
end
section
open PySem PySem.W PySem.Calls PyProof.Rows PySem.Spec
set_option maxHeartbeats 2000000
theorem strB {x : Str} {i : Int} (h0 : 0 ≤ i) (h1 : i < x.cps.size) (hz : x.cps.size ≤ 1000000) : (decide (i < -(2 ^ 63 : Int)) || decide (i ≥ 2 ^ 63)) = false ∧ (seqIndex? i x.length).bind (x.cps[·]?) = some (x.cps.toList.getD i.toNat 0) := by
  refine ⟨?_, ?_⟩
  · rw [Bool.or_eq_false_iff]
    exact ⟨decide_eq_false (by omega), decide_eq_false (by omega)⟩
  · have hi9 : i.toNat < x.cps.size := by omega
    have : seqIndex? i x.length = some i.toNat := by
      have hl9 : x.length = x.cps.size := rfl
      unfold seqIndex?
      rw [hl9]
      simp
      omega
    rw [this, List.getD_eq_getElem?_getD]
    simp [hi9]
theorem sub_strB {w : World} {A : Around} {E : Value → Shared → Prop} {s : Shared} {x : Str} {i : Int} {t tx : Tok} {value slice : PySem.Expr} {Q : Value → Shared → Prop}
    (hx : 0 ≤ i ∧ i < x.cps.size ∧ x.cps.size ≤ 1000000) (hs : subscripted slice false (.str x tx) (.int i t) = operate [.str x tx, .int i t] (getItem (.str x tx) (.int i t))) (ht : ∀ r, letTemporaryGo value (.str x tx) r = pure ()) (h : ∀ t' tk', Q (.str ⟨#[x.cps.toList.getD i.toNat 0]⟩ t') { s with toks := tk' }) :
    wpAny (model pw w) A (subscriptTail value slice (.str x tx) (.int i t)) Q E s := sub_str (strB hx.1 hx.2.1 hx.2.2) hs ht h
local macro_rules | `(tactic| walk_at "call ref") => `(tactic| (k_here; k_dflt (refine' pure_useX (hid_y _ _ _ _ _ _ _ (by omega) (by omega)) (by k_asm) (by k_asm) (by k_asm) (by k_asm) (by k_asm) rfl (by k_room) (by k_units) ?_; k_whole); intro v' h' tk' hok F' N' G'; (obtain ⟨t', he'⟩ := hok); subst he'))
local macro_rules | `(tactic| walk_at "call ref") => `(tactic| (k_here; k_dflt (refine' pure_useX (bes_y _ _ _ _ _ _ _ (by omega) (by omega)) (by k_asm) (by k_asm) (by k_asm) (by k_asm) (by k_asm) rfl (by k_room) (by k_units) ?_; k_whole); intro v' h' tk' hok F' N' G'; (obtain ⟨t', he'⟩ := hok); subst he'))
local macro_rules | `(tactic| walk_at "subscriptTail") => `(tactic| (k_here; k_dflt (refine' sub_ints (by k_asm) (by k_mem) (by (repeat' (first | exact IntsAre.nil | refine IntsAre.cons _ _ ?_))) (by (refine ⟨by omega, by omega, ?_⟩; (simp only [List.length_cons, List.length_nil]); omega)) (by with_unfolding_all rfl) (by (intro _; with_unfolding_all rfl)) ?_); intro t'))
theorem getD_rng {l : List Int} {B : Int} (h : l.all (fun x => decide (0 ≤ x) && decide (x ≤ B)) = true) (hB : 0 ≤ B) (i : Nat) : 0 ≤ l.getD i 0 ∧ l.getD i 0 ≤ B := by
  rw [List.getD_eq_getElem?_getD]
  cases e : l[i]? with
  | none => exact ⟨Int.le_refl _, hB⟩
  | some x =>
    have := List.all_eq_true.mp h x (List.mem_of_getElem? e)
    simpa using this
theorem sum_chr {a b : Int} (h : 0 ≤ a ∧ a ≤ 200000) (h' : 0 ≤ b ∧ b < 100) : (decide (a + b < 0) || decide (a + b > 0x10FFFF)) = false := by
  rw [Bool.or_eq_false_iff]
  exact ⟨decide_eq_false (by omega), decide_eq_false (by omega)⟩
local macro_rules | `(tactic| walk_at "call builtin:chr") => `(tactic| ((with_reducible show wpAny _ _ (call (Value.builtin "chr") [Value.int (List.getD _ _ _ + _) _]) _ _ _); refine P.chr_of_int (by assumption) ?_))
noncomputable def greatL : List Int := [65, 119808, 120432]
noncomputable def iotaL : List Int := [7936, 7968, 8032]
noncomputable def one (c : Int) : Str := ⟨#[c.toNat]⟩
noncomputable def pS (n : Int) : List Str :=
  let q := n.fdiv 8
  if n.fmod 8 = 0 then [Txt.item (Str.ofString "kmz \t\n\r#") (q.fmod 8)]
  else if n.fmod 8 = 1 then [one (greatL.getD (q.fdiv 26).toNat 0 + q.fmod 26)]
  else if n.fmod 8 = 2 then [⟨#[hidS (q.fmod 27)]⟩]
  else if n.fmod 8 = 3 then [Str.ofString "\\", ⟨#[hidS (q.fmod 27)]⟩]
  else if n.fmod 8 = 4 then [Str.ofString "\\", ⟨#[besS (q.fmod 16)]⟩]
  else if n.fmod 8 = 5 then [Str.ofString "\\", one (8064 + q.fmod 48)]
  else if n.fmod 8 = 6 then [⟨#[hidS (q.fmod 27)]⟩, Str.ofString "\\", one (13201 + q.fmod 4)]
  else [Str.ofString "\\", Txt.item (Str.ofString "\\\"\n") (q.fmod 3)]
noncomputable def pM (n : Int) : List Str :=
  let q := n.fdiv 8
  if n.fmod 8 = 0 then [Txt.item (Str.ofString "kmz \t\n\r#") (q.fmod 8)]
  else if n.fmod 8 = 1 then [one (97 + q.fmod 26)]
  else if n.fmod 8 = 2 then [Str.ofString ""]
  else if n.fmod 8 = 3 then [Str.ofString "", Str.ofString ""]
  else if n.fmod 8 = 4 then [Str.ofString "", ⟨#[besS (q.fmod 16)]⟩]
  else if n.fmod 8 = 5 then [Str.ofString "", one (iotaL.getD ((q.fmod 48).fdiv 16).toNat 0 + (q.fmod 48).fmod 8) ++ Str.ofString "ι"]
  else if n.fmod 8 = 6 then [Str.ofString "", Str.ofString "", Txt.item (Str.ofString "kmgt") (q.fmod 4) ++ Str.ofString "hz"]
  else [Str.ofString "", Txt.item (Str.ofString "\\\"\n") (q.fmod 3)]
noncomputable abbrev tupO (a b : Addr) : Obj := { cls := .type "tuple", data := Data.seq #[Value.ref a, Value.ref b] }
noncomputable def PieceOk (n : Int) (news : List (Addr × Obj)) (v : Value) (news' : List (Addr × Obj)) : Prop :=
  ∃ T a b va vb ka kb, v = .ref T ∧ news' = (T, tupO a b) :: (b, W.listOf vb kb) :: (a, W.listOf va ka) :: news ∧ StrsAre va.toList (pS n) ∧ StrsAre vb.toList (pM n) ∧ (∀ p ∈ news, @LT.lt Nat _ p.1 a) ∧ @LT.lt Nat _ a b ∧ @LT.lt Nat _ b T
theorem news_sub {h₀ h : Heap} {L : Addr} {l l' : List (Addr × Obj)} (N : News h₀ L h l) (hs : ∀ q ∈ l', q ∈ l) : News h₀ L h l' := fun q hq => N q (hs q hq)
theorem piece_end {n : Int} {news all : List (Addr × Obj)} {h₀ H : Heap} {L : Addr} {m : Str → Option Value} {s : Shared} {adr : List Addr} {R : Result → Shared → Prop} (hret : ∀ (v' : Value) (h' : Heap) (tk' : Nat) (news' : List (Addr × Obj)), PieceOk n news v' news' → Fr h₀ L h' m → News h₀ L h' news' → GSub H h' adr → R (.ok (.ret v')) { s with heap := h', toks := tk' })
    {T a b : Addr} {va vb : Array Value} {ka kb : Nat} {h' : Heap} {tk' : Nat} (F : Fr h₀ L h' m) (N : News h₀ L h' all) (sub : ∀ q ∈ (T, tupO a b) :: (b, W.listOf vb kb) :: (a, W.listOf va ka) :: news, q ∈ all) (G : GSub H h' adr)
    (hS : StrsAre va.toList (pS n)) (hM : StrsAre vb.toList (pM n)) (h1 : AllLt a news) (h2 : @LT.lt Nat _ a b) (h3 : @LT.lt Nat _ b T) : R (.ok (.ret (.ref T))) { s with heap := h', toks := tk' } :=
  hret _ _ _ _ ⟨_, _, _, _, _, _, _, rfl, rfl, hS, hM, ktn_ltOf h1, h2, h3⟩ F (news_sub N sub) G
theorem piece_c (w : World) (mean mg mb) (news : List (Addr × Obj)) (n : Int) (tn : Tok) (h0 : 0 ≤ n) (h1 : n < 512) : KCy w mean mg mb 169 news [.int n tn] (PieceOk n news) := by
  have w0 : 0 ≤ n.fdiv 8 ∧ n.fdiv 8 < 64 := by
    rw [Int.fdiv_eq_ediv_of_nonneg _ (by omega)]; omega
  have fm : ∀ (a m : Int), 0 < m → 0 ≤ a.fmod m ∧ a.fmod m < m := fun a m h => by
    rw [Int.fmod_eq_emod_of_nonneg _ (by omega)]; exact ⟨Int.emod_nonneg _ (by omega), Int.emod_lt_of_pos _ h⟩
  have f8 := fm (n.fdiv 8) 8 (by omega)
  have f26 := fm (n.fdiv 8) 26 (by omega)
  have f27 := fm (n.fdiv 8) 27 (by omega)
  have f16 := fm (n.fdiv 8) 16 (by omega)
  have f48 := fm (n.fdiv 8) 48 (by omega)
  have f4 := fm (n.fdiv 8) 4 (by omega)
  have f3 := fm (n.fdiv 8) 3 (by omega)
  have p8 := fm ((n.fdiv 8).fmod 48) 8 (by omega)
  have d26 : 0 ≤ (n.fdiv 8).fdiv 26 ∧ (n.fdiv 8).fdiv 26 < 3 := by
    rw [Int.fdiv_eq_ediv_of_nonneg (n.fdiv 8) (by omega)]; omega
  have d48 : 0 ≤ ((n.fdiv 8).fmod 48).fdiv 16 ∧ ((n.fdiv 8).fmod 48).fdiv 16 < 3 := by
    rw [Int.fdiv_eq_ediv_of_nonneg ((n.fdiv 8).fmod 48) (by omega)]; omega
  have hg1 := sum_chr (getD_rng (l := greatL) (B := 200000) (by decide) (by omega) ((n.fdiv 8).fdiv 26).toNat) (b := (n.fdiv 8).fmod 26) (by omega)
  have hg2 := sum_chr (getD_rng (l := iotaL) (B := 200000) (by decide) (by omega) (((n.fdiv 8).fmod 48).fdiv 16).toNat) (b := ((n.fdiv 8).fmod 48).fmod 8) (by omega)
  unfold KCy
  intros
  rename_i hret
  cell_enter
  try dsimp only [unw]
  k_steps
  all_goals (refine piece_end hret (by assumption) (by assumption) (by kcf_all) (gsub_end (by assumption) (by assumption)) ?_ ?_ (by first | exact allLt_of (by assumption) | exact And.right (by assumption) | exact And.right (And.right (by assumption)) | exact And.right (And.right (And.right (by assumption)))) (by omega) (by omega))
  all_goals (first | unfold pS | unfold pM)
  all_goals dsimp only
  all_goals (repeat' (first | exact StrsAre.nil | refine StrsAre.cons _ _ ?_ | (exfalso; omega) | split))
end
section
open PySem PySem.W PySem.Calls PyProof.Rows PySem.Spec
set_option maxHeartbeats 2000000
noncomputable def TurnEnd2 (h₀ : Heap) (L I : Addr) (oI : Obj) (J : (Str → Option Value) → List (Addr × Obj) → Prop) (s : Shared) (Q : Flow → Shared → Prop) (f : Flow) (s₂ : Shared) : Prop :=
  match f with
  | .ret v => Q (.ret v) s₂
  | .brk => Q .next s₂
  | _ => ∃ h' tk' m' news' all, s₂ = { s with heap := h', toks := tk' } ∧ Fr h₀ L h' m' ∧ News h₀ L h' all ∧ (I, oI) ∈ all ∧ (∀ p ∈ news', p ∈ all) ∧ (∀ p ∈ news', p.1 ≠ I) ∧ J m' news'
section
variable {w : World} {A : Around} {E : Value → Shared → Prop} {s : Shared} {h₀ : Heap} {L : Addr} {env : Env}
inductive FInv (s : Shared) (n : Nat) (I : Addr) (h₀ : Heap) (L : Addr) (St : Nat → Heap → Prop) (J : Nat → (Str → Option Value) → List (Addr × Obj) → Prop) (k : Nat) (s' : Shared) : Prop
  | mk (i : Nat) (h' : Heap) (tk : Nat) (m' : Str → Option Value) (news' : List (Addr × Obj)) (q0 : s' = { s with heap := h', toks := tk }) (q1 : i ≤ n) (q2 : k = n + 1 - i) (q3 : St i h') (q4 : Fr h₀ L h' m') (q5 : News h₀ L h' news') (q6 : (∀ p ∈ news', p.1 ≠ I)) (q7 : J i m' news') : FInv s n I h₀ L St J k s'
theorem for_core {target : Expr} {body : List Stmt} {I : Addr} {fp : List Addr} {n : Nat} {P : Nat → Value → Prop} {St : Nat → Heap → Prop} {S : List (Addr × Obj) → Prop} {Q : Flow → Shared → Prop} {m₀ : Str → Option Value} {news : List (Addr × Obj)}
    (J : Nat → (Str → Option Value) → List (Addr × Obj) → Prop) (W : Walks pw w A I fp [I] n P St)
    (hIo : ∀ i h, St i h → ∃ o, h.get? I = some o)
    (hSt : ∀ i h h' o nw, St i h → h.get? I = some o → h'.get? I = some o → (∀ b o, h₀.get? b = some o → h'.get? b = some o) → News h₀ L h' nw → S nw → St i h')
    (hS : ∀ i m nx, J i m nx → S nx) (hgo : ∀ v, letOwnedTupleGo target (.ref I) v = pure ())
    (hst : St 0 s.heap) (F : Fr h₀ L s.heap m₀) (N : News h₀ L s.heap news) (hI₀ : h₀.get? I = none) (hIL : L ≠ I) (off : ∀ p ∈ news, p.1 ≠ I) (hJ : J 0 m₀ news)
    (turn : ∀ i v m₁ news₁ h tk oI (E' : Value → Shared → Prop), i < n → P i v → J i m₁ news₁ → Fr h₀ L h m₁ → News h₀ L h ((I, oI) :: news₁) → (∀ p ∈ news₁, p.1 ≠ I) →
      wpAny (model pw w) A (assign target env v) (fun _ s₂ => wpAny (model pw w) A (execs body env) (TurnEnd2 h₀ L I oI (J (i + 1)) { s with heap := h, toks := tk } Q) E' s₂) E' { s with heap := h, toks := tk })
    (done : ∀ m' news' h tk, J n m' news' → Fr h₀ L h m' → News h₀ L h news' → Q .next { s with heap := h, toks := tk }) :
    codeAny (model pw w) A (.forLoop target (.ref I) body [] env) (fun r s' => match r with | .ok f => Q f s' | .error e => cameBackBy (model pw w) A env E e s') s := by
  refine codeAny_forLoop_any (fun k s' => FInv s n I h₀ L St J k s') ?_ (n + 1)
    ⟨0, s.heap, s.toks, m₀, news, rfl, Nat.zero_le _, rfl, hst, F, N, off, hJ⟩
  rintro k s' ⟨i, h', tk, m', news', rfl, hi, rfl, hst', F', N', off', hJ'⟩
  by_cases hlt : i < n
  · refine W.item i _ _ _ hlt hst' fun v h₂ tk₂ hPv hst₂ hk₂ => ?_
    have F₂ : Fr h₀ L h₂ m' := LCg.fr_but F' hk₂ hIL hI₀
    have N₂ : News h₀ L h₂ news' := LCg.news_but N' hk₂ off'
    obtain ⟨oI, heI⟩ := hIo _ _ hst₂
    have N₃ : News h₀ L h₂ ((I, oI) :: news') := fun p hp => by
      rcases List.mem_cons.mp hp with rfl | hp
      · exact ⟨heI, Ne.symm hIL, hI₀⟩
      · exact N₂ p hp
    refine wpAny_of_eq (hgo v) ?_
    refine wpAny_mono (turn i v m' news' h₂ tk₂ oI _ hlt hPv hJ' F₂ N₃ off') (fun _ s₃ h₃ => wpAny_mono h₃ (fun f s₄ h₄ => ?_) fun _ _ e => e) fun _ _ e => e
    have next : (∃ h' tk' m' news' all, s₄ = { ({ s with heap := h₂, toks := tk₂ } : Shared) with heap := h', toks := tk' } ∧ Fr h₀ L h' m' ∧ News h₀ L h' all ∧ (I, oI) ∈ all ∧ (∀ p ∈ news', p ∈ all) ∧ (∀ p ∈ news', p.1 ≠ I) ∧ J (i + 1) m' news') →
        ∃ m, m < n + 1 - i ∧ FInv s n I h₀ L St J m s₄ := by
      rintro ⟨h₅, tk₅, m₅, news₅, all₅, rfl, F₅, N₅, hIm, hsub, off₅, hJ₅⟩
      have N₅' : News h₀ L h₅ news₅ := fun p hp => N₅ p (hsub p hp)
      exact ⟨n + 1 - (i + 1), by omega, i + 1, h₅, tk₅, m₅, news₅, rfl, hlt, rfl, hSt _ _ _ _ _ hst₂ heI (N₅ _ hIm).1 F₅.keep N₅' (hS _ _ _ hJ₅), F₅, N₅', off₅, hJ₅⟩
    cases f with
    | next => exact next h₄
    | cont => exact next h₄
    | brk => exact h₄
    | ret v => exact h₄
  · obtain rfl : i = n := Nat.le_antisymm hi (Nat.not_lt.mp hlt)
    refine W.done _ _ _ hst' fun h₂ tk₂ hk₂ => ?_
    exact wpAny_execs_nil (done m' news' h₂ tk₂ hJ' (LCg.fr_but F' hk₂ hIL hI₀) (LCg.news_but N' hk₂ off'))
theorem for_range {x : Str} {px pos : Pos} {iter : Expr} {body : List Stmt} {n : Nat} {a : Int} {Q : Flow → Shared → Prop} {m₀ : Str → Option Value} {news : List (Addr × Obj)} (J : Nat → (Str → Option Value) → List (Addr × Obj) → Prop) (hh : A.handled = none)
    (hi : wpAny (model pw w) A (eval iter env) (RangePost h₀ L m₀ news a n s) E s) (hsm : Builtin.Range.small a (a + n) 1 = true) (hJ : J 0 m₀ news)
    (turn : ∀ I i t m₁ news₁ h tk oI (E' : Value → Shared → Prop), i < n → J i m₁ news₁ → Fr h₀ L h m₁ → News h₀ L h ((I, oI) :: news₁) → (∀ p ∈ news₁, p.1 ≠ I) →
      wpAny (model pw w) A (assign (.Name x px) env (.int (a + (i : Int)) t)) (fun _ s₂ => wpAny (model pw w) A (execs body env) (TurnEnd2 h₀ L I oI (J (i + 1)) { s with heap := h, toks := tk } Q) E' s₂) E' { s with heap := h, toks := tk })
    (done : ∀ m' news' h tk, J n m' news' → Fr h₀ L h m' → News h₀ L h news' → Q .next { s with heap := h, toks := tk })
    (hs : ∀ x, foldedSetIterable iter env x = pure x := by intro _; rfl) :
    wpAny (model pw w) A (exec (.For (.Name x px) iter body [] pos) env) Q E s := by
  refine wpAny_For (wpAny_mono hi (fun v s₁ h₁ => ?_) fun _ _ e => e) hs
  obtain ⟨r, h₁, tk₁, t, u, c, rfl, rfl, hr, F, N⟩ := h₁
  refine wpAny_pyIter_range hr hsm ?_
  have hsz : Builtin.Range.rangeSize a (a + n) 1 = (n : Int) := by
    unfold Builtin.Range.rangeSize
    by_cases hn : n = 0
    · subst hn; simp
    · simp; omega
  refine for_core (target := .Name x px) (s := { s with heap := h₁.push _, toks := tk₁ }) (S := fun _ => True) J (LCg.range_walks hh a n) (fun i h st => ⟨_, st⟩) LCg.range_st (fun _ _ _ _ => trivial) (fun _ => rfl) ?_ (F.push _) (N.grown fun _ _ e => Heap.get?_push_of_some _ e) (next_is_new F) (Nat.ne_of_lt F.ns.lt) (fun p hp => Nat.ne_of_lt (Heap.lt_size (N p hp).1)) hJ ?_ done
  · show IsRangeIter _ _ _ _ _
    unfold IsRangeIter
    rw [Heap.get?_push_size _ rfl, hsz]
    simp
  · rintro i v m₁ news₁ h tk oI E' hlt ⟨t, rfl⟩ hJ₁ F₁ N₁ off₁
    exact turn _ i t m₁ news₁ h tk oI E' hlt hJ₁ F₁ N₁ off₁
theorem for_list {x : Str} {px pos : Pos} {iter : Expr} {body : List Stmt} {D : Addr} {items : Array Value} {k : Nat} {Q : Flow → Shared → Prop} {m₀ : Str → Option Value} {news : List (Addr × Obj)} (J : Nat → (Str → Option Value) → List (Addr × Obj) → Prop) (hh : A.handled = none)
    (hi : wpAny (model pw w) A (eval iter env) (fun v s₁ => ∃ h₁ tk₁, v = .ref D ∧ s₁ = { s with heap := h₁, toks := tk₁ } ∧ Fr h₀ L h₁ m₀ ∧ News h₀ L h₁ news) E s) (hJ : J 0 m₀ news) (hD : ∀ i m nx, J i m nx → (D, PySem.W.listOf items k) ∈ nx)
    (turn : ∀ I i v m₁ news₁ h tk oI (E' : Value → Shared → Prop), items[i]? = some v → J i m₁ news₁ → Fr h₀ L h m₁ → News h₀ L h ((I, oI) :: news₁) → (∀ p ∈ news₁, p.1 ≠ I) →
      wpAny (model pw w) A (assign (.Name x px) env v) (fun _ s₂ => wpAny (model pw w) A (execs body env) (TurnEnd2 h₀ L I oI (J (i + 1)) { s with heap := h, toks := tk } Q) E' s₂) E' { s with heap := h, toks := tk })
    (done : ∀ m' news' h tk, J items.size m' news' → Fr h₀ L h m' → News h₀ L h news' → Q .next { s with heap := h, toks := tk })
    (hs : ∀ x, foldedSetIterable iter env x = pure x := by intro _; rfl) :
    wpAny (model pw w) A (exec (.For (.Name x px) iter body [] pos) env) Q E s := by
  refine wpAny_For (wpAny_mono hi (fun v s₁ h₁ => ?_) fun _ _ e => e) hs
  obtain ⟨h₁, tk₁, rfl, rfl, F, N⟩ := h₁
  have hls := (N _ (hD _ _ _ hJ)).1
  have hl : h₁.IsList D items := ⟨_, hls, rfl, _, rfl⟩
  have hlt := Heap.lt_size hls
  have S₀ : LCg.SrcAt h₀ D items news := .inr ⟨_, hD _ _ _ hJ, rfl, _, rfl⟩
  refine wpAny_pyIter_list hl ?_
  refine for_core (target := .Name x px) (s := { s with heap := h₁.push _, toks := tk₁ }) (S := LCg.SrcAt h₀ D items) J (Walks.list hh h₁.objs.size D (Nat.ne_of_lt hlt) items) (fun i h st => by obtain ⟨o, e, _⟩ := st.1; exact ⟨o, e⟩) LCg.list_st (fun i m nx hj => .inr ⟨_, hD i m nx hj, rfl, _, rfl⟩) (fun _ => rfl) ⟨⟨_, Heap.get?_push_size _ rfl, rfl, rfl⟩, hl.push _⟩ (F.push _) (N.grown fun _ _ e => Heap.get?_push_of_some _ e) (next_is_new F) (Nat.ne_of_lt F.ns.lt) (fun p hp => Nat.ne_of_lt (Heap.lt_size (N p hp).1)) hJ ?_ done
  intro i v m₁ news₁ h tk oI E' hlt hP hJ₁ F₁ N₁ off₁
  exact turn _ i v m₁ news₁ h tk oI E' hP hJ₁ F₁ N₁ off₁
noncomputable def ovr : List Str → (Str → Option Value) → (Str → Option Value) → Str → Option Value
  | [], _, m₀, y => m₀ y
  | a :: r, u, m₀, y => if y = a then u y else ovr r u m₀ y
theorem ovr_out {m₀ u : Str → Option Value} {y : Str} : ∀ {xs : List Str}, y ∉ xs → ovr xs u m₀ y = m₀ y
  | [], _ => rfl
  | b :: l, hb => by
    unfold ovr
    rw [if_neg (fun e => hb (by rw [e]; exact List.mem_cons_self)), ovr_out fun h => hb (List.mem_cons_of_mem _ h)]
theorem ovr_in {m₀ u : Str → Option Value} {y : Str} : ∀ {xs : List Str}, y ∈ xs → ovr xs u m₀ y = u y
  | [], h => by cases h
  | b :: l, hb => by
    unfold ovr
    by_cases e : y = b
    · rw [if_pos e]
    · rw [if_neg e]
      exact ovr_in (by rcases List.mem_cons.mp hb with h | h; exact absurd h e; exact h)
theorem ovr_eq {m₀ m : Str → Option Value} {xs : List Str} (h : ∀ z, z ∉ xs → m z = m₀ z) : m = ovr xs m m₀ := by
  funext y
  by_cases hy : y ∈ xs
  · rw [ovr_in hy]
  · rw [ovr_out hy, h y hy]
theorem ovr_new {m₀ m : Str → Option Value} {x : Str} {xs : List Str} {v : Option Value} (h : ∀ z, z ∉ x :: xs → m z = m₀ z) : (fun z => if z = x then v else m z) = fun z => if z = x then v else ovr xs m m₀ z := by
  funext z
  by_cases e : z = x
  · rw [if_pos e, if_pos e]
  · rw [if_neg e, if_neg e]
    by_cases hy : z ∈ xs
    · rw [ovr_in hy]
    · rw [ovr_out hy, h z (by simp; exact ⟨e, hy⟩)]
theorem for_rangeV {x : Str} {px pos : Pos} {iter : Expr} {body : List Stmt} {n : Nat} {a : Int} {Q : Flow → Shared → Prop} {m₀ : Str → Option Value} {news : List (Addr × Obj)} (xs : List Str) (J : Nat → List (Addr × Obj) → Prop) (hh : A.handled = none)
    (F₀ : Fr h₀ L s.heap m₀) (N₀ : News h₀ L s.heap news) (hi : wpAny (model pw w) A (eval iter env) (RangePost h₀ L m₀ news a n s) E s) (hsm : Builtin.Range.small a (a + n) 1 = true) (hL : env.locals = L) (hx : env.kindOf x = some .local) (hp : (env.scope.kind == .class || (env.scope.kind == .module && env.locals != env.globals)) = false) (hJ : J 0 news)
    (turn : ∀ I i t u news₁ h tk oI (E' : Value → Shared → Prop), i < n → J i news₁ → Fr h₀ L h (fun y => if y = x then some (.int (a + (i : Int)) t) else ovr xs u m₀ y) → News h₀ L h ((I, oI) :: news₁) → (∀ p ∈ news₁, p.1 ≠ I) →
      wpAny (model pw w) A (execs body env) (TurnEnd2 h₀ L I oI (fun m' nx => J (i + 1) nx ∧ ∀ z, z ∉ x :: xs → m' z = m₀ z) { s with heap := h, toks := tk } Q) E' { s with heap := h, toks := tk })
    (done : ∀ u news' h tk, J n news' → Fr h₀ L h (ovr (x :: xs) u m₀) → News h₀ L h news' → Q .next { s with heap := h, toks := tk })
    (hs : ∀ x, foldedSetIterable iter env x = pure x := by intro _; rfl) :
    wpAny (model pw w) A (exec (.For (.Name x px) iter body [] pos) env) Q E s := by
  subst hL
  refine for_range (fun i m nx => J i nx ∧ ∀ z, z ∉ x :: xs → m z = m₀ z) hh hi hsm ⟨hJ, fun _ _ => rfl⟩ ?_ ?_ hs
  · rintro I i t m₁ news₁ h tk oI E' hlt ⟨hJ₁, hm⟩ F₁ N₁ off₁
    refine wpAny_assign_Name (wpAny_storeName_local hx F₁.ns (fun h₂ hn₂ hs₂ => ?_) hp)
    have hL₀ : h₀.get? env.locals = none := Heap.get?_none_of_le F₁.above
    have F₂ : Fr h₀ env.locals h₂ (fun z => if z = x then some (.int (a + (i : Int)) t) else m₁ z) := ⟨hn₂, fun b o e => hs₂.extBut b o (fun q => by rw [q, hL₀] at e; cases e) (F₁.keep b o e), F₁.above⟩
    have N₂ : News h₀ env.locals h₂ ((I, oI) :: news₁) := fun p hp => ⟨hs₂.extBut _ _ (N₁ p hp).2.1 (N₁ p hp).1, (N₁ p hp).2⟩
    have e := ovr_new (v := some (Value.int (a + (i : Int)) t)) hm
    rw [e] at F₂
    exact turn I i t m₁ news₁ h₂ (tk + 1) oI E' hlt hJ₁ F₂ N₂ off₁
  · rintro m' news' h tk ⟨hJ₁, hm⟩ F₁ N₁
    rw [ovr_eq hm] at F₁
    exact done m' news' h tk hJ₁ F₁ N₁
theorem for_listV {x : Str} {px pos : Pos} {iter : Expr} {body : List Stmt} {D : Addr} {items : Array Value} {k : Nat} {Q : Flow → Shared → Prop} {m₀ : Str → Option Value} {news : List (Addr × Obj)} (xs : List Str) (J : Nat → List (Addr × Obj) → Prop) (hh : A.handled = none)
    (F₀ : Fr h₀ L s.heap m₀) (N₀ : News h₀ L s.heap news) (hi : wpAny (model pw w) A (eval iter env) (fun v s₁ => ∃ h₁ tk₁, v = .ref D ∧ s₁ = { s with heap := h₁, toks := tk₁ } ∧ Fr h₀ L h₁ m₀ ∧ News h₀ L h₁ news) E s) (hL : env.locals = L) (hx : env.kindOf x = some .local) (hp : (env.scope.kind == .class || (env.scope.kind == .module && env.locals != env.globals)) = false)
    (hJ : J 0 news) (hD : ∀ i nx, J i nx → (D, PySem.W.listOf items k) ∈ nx)
    (turn : ∀ I i v u news₁ h tk oI (E' : Value → Shared → Prop), items[i]? = some v → J i news₁ → Fr h₀ L h (fun y => if y = x then some v else ovr xs u m₀ y) → News h₀ L h ((I, oI) :: news₁) → (∀ p ∈ news₁, p.1 ≠ I) →
      wpAny (model pw w) A (execs body env) (TurnEnd2 h₀ L I oI (fun m' nx => J (i + 1) nx ∧ ∀ z, z ∉ x :: xs → m' z = m₀ z) { s with heap := h, toks := tk } Q) E' { s with heap := h, toks := tk })
    (done : ∀ u news' h tk, J items.size news' → Fr h₀ L h (ovr (x :: xs) u m₀) → News h₀ L h news' → Q .next { s with heap := h, toks := tk })
    (hs : ∀ x, foldedSetIterable iter env x = pure x := by intro _; rfl) :
    wpAny (model pw w) A (exec (.For (.Name x px) iter body [] pos) env) Q E s := by
  subst hL
  refine for_list (fun i m nx => J i nx ∧ ∀ z, z ∉ x :: xs → m z = m₀ z) hh hi ⟨hJ, fun _ _ => rfl⟩ (fun i m nx hj => hD i nx hj.1) ?_ ?_ hs
  · rintro I i v m₁ news₁ h tk oI E' hlt ⟨hJ₁, hm⟩ F₁ N₁ off₁
    refine wpAny_assign_Name (wpAny_storeName_local hx F₁.ns (fun h₂ hn₂ hs₂ => ?_) hp)
    have hL₀ : h₀.get? env.locals = none := Heap.get?_none_of_le F₁.above
    have F₂ : Fr h₀ env.locals h₂ (fun z => if z = x then some v else m₁ z) := ⟨hn₂, fun b o e => hs₂.extBut b o (fun q => by rw [q, hL₀] at e; cases e) (F₁.keep b o e), F₁.above⟩
    have N₂ : News h₀ env.locals h₂ ((I, oI) :: news₁) := fun p hp => ⟨hs₂.extBut _ _ (N₁ p hp).2.1 (N₁ p hp).1, (N₁ p hp).2⟩
    rw [ovr_new (v := some v) hm] at F₂
    exact turn I i v m₁ news₁ h₂ (tk + 1) oI E' hlt hJ₁ F₂ N₂ off₁
  · rintro m' news' h tk ⟨hJ₁, hm⟩ F₁ N₁
    rw [ovr_eq hm] at F₁
    exact done m' news' h tk hJ₁ F₁ N₁
noncomputable def ForAt (w : World) (A : Around) (h₀ : Heap) (L : Addr) (env : Env) (x : Str) (body : List Stmt) (Q : Flow → Shared → Prop) (v : Value) (s : Shared) : Prop :=
  ∃ (D : Addr) (items : Array Value) (k : Nat) (m₀ : Str → Option Value) (news : List (Addr × Obj)) (xs : List Str) (J : Nat → List (Addr × Obj) → Prop), v = .ref D ∧ Fr h₀ L s.heap m₀ ∧ News h₀ L s.heap news ∧ J 0 news ∧ (∀ i nx, J i nx → (D, PySem.W.listOf items k) ∈ nx) ∧
    (∀ I i v u news₁ h tk oI (E' : Value → Shared → Prop), items[i]? = some v → J i news₁ → Fr h₀ L h (fun y => if y = x then some v else ovr xs u m₀ y) → News h₀ L h ((I, oI) :: news₁) → (∀ p ∈ news₁, p.1 ≠ I) →
      wpAny (model pw w) A (execs body env) (TurnEnd2 h₀ L I oI (fun m' nx => J (i + 1) nx ∧ ∀ z, z ∉ x :: xs → m' z = m₀ z) { s with heap := h, toks := tk } Q) E' { s with heap := h, toks := tk }) ∧
    (∀ u news' h tk, J items.size news' → Fr h₀ L h (ovr (x :: xs) u m₀) → News h₀ L h news' → Q .next { s with heap := h, toks := tk })
theorem ForAt.intro {x : Str} {body : List Stmt} {D : Addr} {items : Array Value} {k : Nat} {Q : Flow → Shared → Prop} {m₀ : Str → Option Value} {news : List (Addr × Obj)} (xs : List Str) (J : Nat → List (Addr × Obj) → Prop) (F₀ : Fr h₀ L s.heap m₀) (N₀ : News h₀ L s.heap news) (hJ : J 0 news) (hD : ∀ i nx, J i nx → (D, PySem.W.listOf items k) ∈ nx)
    (turn : ∀ I i v u news₁ h tk oI (E' : Value → Shared → Prop), items[i]? = some v → J i news₁ → Fr h₀ L h (fun y => if y = x then some v else ovr xs u m₀ y) → News h₀ L h ((I, oI) :: news₁) → (∀ p ∈ news₁, p.1 ≠ I) →
      wpAny (model pw w) A (execs body env) (TurnEnd2 h₀ L I oI (fun m' nx => J (i + 1) nx ∧ ∀ z, z ∉ x :: xs → m' z = m₀ z) { s with heap := h, toks := tk } Q) E' { s with heap := h, toks := tk })
    (done : ∀ u news' h tk, J items.size news' → Fr h₀ L h (ovr (x :: xs) u m₀) → News h₀ L h news' → Q .next { s with heap := h, toks := tk }) : ForAt w A h₀ L env x body Q (.ref D) s :=
  ⟨D, items, k, m₀, news, xs, J, rfl, F₀, N₀, hJ, hD, turn, done⟩
theorem for_listE {x : Str} {px pos : Pos} {iter : Expr} {body : List Stmt} {Q : Flow → Shared → Prop} {m₉ : Str → Option Value} (hh : A.handled = none) (_ : Fr h₀ L s.heap m₉)
    (h : wpAny (model pw w) A (eval iter env) (ForAt w A h₀ L env x body Q) E s) (hL : env.locals = L) (hx : env.kindOf x = some .local) (hp : (env.scope.kind == .class || (env.scope.kind == .module && env.locals != env.globals)) = false)
    (hs : ∀ x, foldedSetIterable iter env x = pure x := by intro _; rfl) :
    wpAny (model pw w) A (exec (.For (.Name x px) iter body [] pos) env) Q E s := by
  subst hL
  refine wpAny_For (wpAny_mono h (fun v s₁ h₁ => ?_) fun _ _ e => e) hs
  obtain ⟨D, items, k, m₀, news, xs, J, rfl, F, N, hJ, hD, turn, done⟩ := h₁
  have hls := (N _ (hD _ _ hJ)).1
  have hl : s₁.heap.IsList D items := ⟨_, hls, rfl, _, rfl⟩
  have hlt := Heap.lt_size hls
  refine wpAny_pyIter_list hl ?_
  refine for_core (target := .Name x px) (s := { s₁ with heap := s₁.heap.push _ }) (S := LCg.SrcAt h₀ D items) (fun i m nx => J i nx ∧ ∀ z, z ∉ x :: xs → m z = m₀ z) (Walks.list hh s₁.heap.objs.size D (Nat.ne_of_lt hlt) items) (fun i h st => by obtain ⟨o, e, _⟩ := st.1; exact ⟨o, e⟩) LCg.list_st (fun i m nx hj => .inr ⟨_, hD i nx hj.1, rfl, _, rfl⟩) (fun _ => rfl) ⟨⟨_, Heap.get?_push_size _ rfl, rfl, rfl⟩, hl.push _⟩ (F.push _) (N.grown fun _ _ e => Heap.get?_push_of_some _ e) (next_is_new F) (Nat.ne_of_lt F.ns.lt) (fun p hp => Nat.ne_of_lt (Heap.lt_size (N p hp).1)) ⟨hJ, fun _ _ => rfl⟩ ?_ ?_
  · rintro i v m₁ news₁ h tk oI E' hlt hP ⟨hJ₁, hm⟩ F₁ N₁ off₁
    refine wpAny_assign_Name (wpAny_storeName_local hx F₁.ns (fun h₂ hn₂ hs₂ => ?_) hp)
    have hL₀ : h₀.get? env.locals = none := Heap.get?_none_of_le F₁.above
    have F₂ : Fr h₀ env.locals h₂ (fun z => if z = x then some v else m₁ z) := ⟨hn₂, fun b o e => hs₂.extBut b o (fun q => by rw [q, hL₀] at e; cases e) (F₁.keep b o e), F₁.above⟩
    have N₂ : News h₀ env.locals h₂ ((s₁.heap.objs.size, oI) :: news₁) := fun p hp => ⟨hs₂.extBut _ _ (N₁ p hp).2.1 (N₁ p hp).1, (N₁ p hp).2⟩
    rw [ovr_new (v := some v) hm] at F₂
    exact turn _ i v m₁ news₁ h₂ (tk + 1) oI E' hP hJ₁ F₂ N₂ off₁
  · rintro m' news' h tk ⟨hJ₁, hm⟩ F₁ N₁
    rw [ovr_eq hm] at F₁
    exact done m' news' h tk hJ₁ F₁ N₁
end
end
section
open PySem PySem.W PySem.Calls PyProof.Rows PySem.Spec
set_option maxHeartbeats 2000000
local macro_rules | `(tactic| kpc_none) => `(tactic| grind)
section
variable {w : World} {A : Around} {E : Value → Shared → Prop} {s : Shared} {h₀ : Heap} {L D : Addr} {m : Str → Option Value} {news news' : List (Addr × Obj)} {its : Array Value} {n : Nat} {k : Int} {t : Tok} {v : Value}
theorem set_led {Q : Unit → Shared → Prop} (F : Fr h₀ L s.heap m) (Nw : News h₀ L s.heap news) (U : Upd D (listOf its n) (listOf (its.setIfInBounds k.toNat v) n) news news') (hb : 0 ≤ k ∧ k < 1000000 ∧ k.toNat < its.size)
    (h : ∀ h', Fr h₀ L h' m → News h₀ L h' news' → Q () { s with heap := h' }) : wpAny (model pw w) A (setItem (.ref D) (.int k t) v) Q E s := by
  obtain ⟨pre, post, rfl, rfl, a, b⟩ := U.split
  have z := Nw (D, listOf its n) (List.mem_append.mpr (.inr (.head _)))
  refine ki_setAt z.1 hb.1 (by omega) (by omega) (h _ (F.change (Heap.SameBut.update ..) z.2.1 z.2.2) (ki_turn _ Nw a b rfl ?_))
  rw [if_pos (by simp)]
end
theorem extend_led {w : World} {A : Around} {E : Value → Shared → Prop} {s : Shared} {h₀ : Heap} {L D b : Addr} {m : Str → Option Value} {news news' : List (Addr × Obj)} {its its2 : Array Value} {n n2 : Nat} {Q : Value → Shared → Prop} (F : Fr h₀ L s.heap m) (N : News h₀ L s.heap news) (hb : (b, listOf its2 n2) ∈ news) (hne : its2.size ≠ 0 ∧ its.size + its2.size ≤ 1000)
    (U : Upd D (listOf its n) (listOf (its.toList ++ its2.toList).toArray (n + 1)) news news')
    (h : ∀ h', Fr h₀ L h' m → News h₀ L h' news' → Q .none { s with heap := h' }) : wpAny (model pw w) A (call (.builtin "list.extend") [.ref D, .ref b]) Q E s :=
  kl_extend F N hb rfl (by simpa using hne.1) U (extend_door (by rw [sizeLine_eq]; omega)) (by rw [sizeLine_eq, Array.length_toList]; omega) (by rw [sizeLine_eq]; omega) h
theorem ints_set : ∀ {vs : List Value} {ns : List Int} {i : Nat} {x : Int} {t : Tok}, IntsAre vs ns → IntsAre (vs.set i (.int x t)) (ns.set i x)
  | _, _, _, _, _, .nil => by simp; exact .nil
  | _, _, 0, _, _, .cons n u h => by simp; exact .cons _ _ h
  | _, _, i + 1, _, _, .cons n u h => by simp; exact .cons _ _ (ints_set h)
theorem strs_app : ∀ {vs us : List Value} {xs ys : List Str}, StrsAre vs xs → StrsAre us ys → StrsAre (vs ++ us) (xs ++ ys)
  | _, _, _, _, .nil, h => h
  | _, _, _, _, .cons y t h, h' => .cons y t (strs_app h h')
theorem strs_take : ∀ {vs : List Value} {xs : List Str} (k : Nat), StrsAre vs xs → StrsAre (vs.take k) (xs.take k)
  | _, _, 0, _ => by simp; exact .nil
  | _, _, k + 1, .nil => by simp; exact .nil
  | _, _, k + 1, .cons y t h => by simp; exact .cons y t (strs_take k h)
theorem strs_drop : ∀ {vs : List Value} {xs : List Str} (k : Nat), StrsAre vs xs → StrsAre (vs.drop k) (xs.drop k)
  | _, _, 0, h => by simpa using h
  | _, _, k + 1, .nil => by simp; exact .nil
  | _, _, k + 1, .cons y t h => by simp; exact strs_drop k h
theorem strs_len : ∀ {vs : List Value} {xs : List Str}, StrsAre vs xs → vs.length = xs.length
  | _, _, .nil => rfl
  | _, _, .cons y t h => by simp; exact strs_len h
theorem pS_len (n : Int) : 1 ≤ (pS n).length ∧ (pS n).length ≤ 3 := by
  unfold pS
  dsimp only
  repeat' split
  all_goals (simp only [List.length_cons, List.length_nil]; omega)
theorem pSM_len (n : Int) : (pM n).length = (pS n).length := by
  unfold pS pM
  dsimp only
  repeat' split
  all_goals rfl
noncomputable def Built (ps : List Int) (sv mv : List Value) : Prop := StrsAre sv (ps.flatMap pS) ∧ StrsAre mv (ps.flatMap pM) ∧ ∀ n ∈ ps, 0 ≤ n ∧ n < 512
theorem flat_len : ∀ (ps : List Int), (ps.flatMap pS).length ≤ 3 * ps.length ∧ ps.length ≤ (ps.flatMap pS).length ∧ (ps.flatMap pM).length = (ps.flatMap pS).length
  | [] => by simp
  | p :: ps => by
    obtain ⟨a, b, c⟩ := flat_len ps
    have := pS_len p
    have := pSM_len p
    simp only [List.flatMap_cons, List.length_append, List.length_cons]
    omega
theorem Built.size {ps : List Int} {sv mv : List Value} (b : Built ps sv mv) : sv.length ≤ 3 * ps.length ∧ mv.length ≤ 3 * ps.length := by
  have := flat_len ps
  rw [strs_len b.1, strs_len b.2.1]
  omega
theorem Built.snoc {ps : List Int} {sv mv sv' mv' : List Value} {n : Int} (b : Built ps sv mv) (h0 : 0 ≤ n) (h1 : n < 512) (hS : StrsAre sv' (pS n)) (hM : StrsAre mv' (pM n)) : Built (ps ++ [n]) (sv ++ sv') (mv ++ mv') := by
  refine ⟨?_, ?_, ?_⟩
  · rw [List.flatMap_append]
    simpa using strs_app b.1 hS
  · rw [List.flatMap_append]
    simpa using strs_app b.2.1 hM
  · intro k hk
    rcases List.mem_append.mp hk with h | h
    · exact b.2.2 k h
    · rw [List.mem_singleton.mp h]; exact ⟨h0, h1⟩
theorem ext_okS {its its2 : Array Value} {y : Int} (h : StrsAre its2.toList (pS y)) (hz : its.size ≤ 900) : its2.size ≠ 0 ∧ its.size + its2.size ≤ 1000 := by
  have := strs_len h
  have := pS_len y
  simp only [Array.length_toList] at *
  omega
theorem ext_okM {its its2 : Array Value} {y : Int} (h : StrsAre its2.toList (pM y)) (hz : its.size ≤ 900) : its2.size ≠ 0 ∧ its.size + its2.size ≤ 1000 := by
  have := strs_len h
  have := pS_len y
  have := pSM_len y
  simp only [Array.length_toList] at *
  omega
noncomputable def textS (ps : List Int) : List Str := (ps.flatMap pS).take 16
noncomputable def textM (ps : List Int) : List Str := (ps.flatMap pM).take 16
inductive TextOk (news : List (Addr × Obj)) (v : Value) (news' : List (Addr × Obj)) : Prop
  | mk (T a b : Addr) (va vb : Array Value) (ps : List Int) (q0 : v = .ref T) (q1 : news' = (T, tupO a b) :: (b, W.listOf vb 0) :: (a, W.listOf va 0) :: news) (q2 : StrsAre va.toList (textS ps)) (q3 : StrsAre vb.toList (textM ps)) (q4 : ps.length = 10) (q5 : (∀ n ∈ ps, 0 ≤ n ∧ n < 512)) (q6 : (∀ p ∈ news, @LT.lt Nat _ p.1 a)) (q7 : @LT.lt Nat _ a b) (q8 : @LT.lt Nat _ b T) : TextOk news v news'
theorem pick16 (l : List Value) : kms_pick l none (some 16) = l.take 16 := by
  unfold kms_pick kms_lo kms_hi
  dsimp only
  rw [if_neg (by omega), List.drop_zero]
  rw [List.take_eq_take_iff]
  simp
theorem text_end {news all : List (Addr × Obj)} {h₀ : Heap} {L : Addr} {m : Str → Option Value} {s : Shared} {R : Result → Shared → Prop} (hret : ∀ (v' : Value) (h' : Heap) (tk' : Nat) (news' : List (Addr × Obj)), TextOk news v' news' → Fr h₀ L h' m → News h₀ L h' news' → R (.ok (.ret v')) { s with heap := h', toks := tk' })
    {T a b : Addr} {va vb : Array Value} {ps : List Int} {h' : Heap} {tk' : Nat} (F : Fr h₀ L h' m) (N : News h₀ L h' all) (hb : Built ps va.toList vb.toList) (hps : ps.length = 10)
    (sub : ∀ q ∈ (T, tupO a b) :: (b, W.listOf (kms_pick vb.toList none (some 16)).toArray 0) :: (a, W.listOf (kms_pick va.toList none (some 16)).toArray 0) :: news, q ∈ all)
    (h1 : AllLt a news) (h2 : @LT.lt Nat _ a b) (h3 : @LT.lt Nat _ b T) : R (.ok (.ret (.ref T))) { s with heap := h', toks := tk' } := by
  refine hret _ _ _ _ ⟨T, a, b, _, _, ps, rfl, rfl, ?_, ?_, hps, hb.2.2, ktn_ltOf h1, h2, h3⟩ F (news_sub N sub)
  · rw [List.toList_toArray, pick16]
    exact strs_take 16 hb.1
  · rw [List.toList_toArray, pick16]
    exact strs_take 16 hb.2.1
theorem piece_use {w : World} {mean : ExcName → Option Value} {mg mb : Str → Option Value} {news : List (Addr × Obj)} {n : Int} {tn : Tok} (h0 : 0 ≤ n) (h1 : n < 512)
    {dp un : Nat} {gd : Option (List Code)} {cn : Str} {cs : Scope} {a : Addr} {ccd : Value} {cl : List (Str × Addr)} {outer : List Env} {A₀ : Around} {base h₀ : Heap} {L : Addr} {m : Str → Option Value} {s : Shared} {Q E : Value → Shared → Prop}
    (B : Below A₀ base outer h₀) (F : Fr h₀ L s.heap m) (X : (K w.params).In h₀) (N : News h₀ L s.heap news) (T : Top tq lz mean mg mb h₀) (hk : cs.kind = .function) (hd : dp + 40 < recursionLimit) (hu : un + 400 < cLine)
    (h : ∀ t a b va vb ka kb h' tk', StrsAre va.toList (pS n) → StrsAre vb.toList (pM n) → (∀ p ∈ news, @LT.lt Nat _ p.1 a) → @LT.lt Nat _ a b → @LT.lt Nat _ b t → Fr h₀ L h' m → News h₀ L h' ((t, tupO a b) :: (b, PySem.W.listOf vb kb) :: (a, PySem.W.listOf va ka) :: news) → Q (.ref t) { s with heap := h', toks := tk' }) :
    wpAny (model pw w) (ktrTop dp un gd cn cs L a ccd cl outer) (call (.ref 169) [.int n tn]) Q E s := by
  refine wpAny_call (piece_c w mean mg mb news n tn h0 h1 dp un gd cn cs a ccd cl outer A₀ base h₀ L m s _ B F X N T hk hd hu ?_)
  rintro v' h' tk' news' ⟨t, a', b', va, vb, ka, kb, rfl, rfl, hS, hM, h1, h2, h3⟩ F' N' G
  exact h t a' b' va vb ka kb h' tk' hS hM h1 h2 h3 F' N'
theorem TurnEnd2.next {h₀ h' : Heap} {L I : Addr} {oI : Obj} {J : (Str → Option Value) → List (Addr × Obj) → Prop} {s : Shared} {Q : Flow → Shared → Prop} {m' : Str → Option Value} {all : List (Addr × Obj)} {tk' : Nat} (nx : List (Addr × Obj)) (F : Fr h₀ L h' m') (N : News h₀ L h' all) (hI : (I, oI) ∈ all) (sub : ∀ p ∈ nx, p ∈ all) (off : ∀ p ∈ nx, p.1 ≠ I) (hJ : J m' nx) :
    TurnEnd2 h₀ L I oI J s Q .next { s with heap := h', toks := tk' } := ⟨h', tk', m', nx, all, rfl, F, N, hI, sub, off, hJ⟩
end
section
open PySem PySem.W PySem.Calls PyProof.Rows PySem.Spec
set_option maxHeartbeats 2000000
local macro_rules | `(tactic| kpc_none) => `(tactic| grind)

local macro_rules | `(tactic| walk_at "exec For Name Call cons nil") => `(tactic| (k_here; refine stop_intro ?_))
local macro_rules | `(tactic| walk_at "exec For Name Name cons nil") => `(tactic| (k_here; refine stop_intro ?_))
local macro_rules | `(tactic| walk_at "exec For Name List cons nil") => `(tactic| (k_here; refine stop_intro ?_))
local macro_rules | `(tactic| walk_at "setItem ref int") => `(tactic| (k_here; k_dflt (refine' set_led (by k_asm) (by k_asm) (by k_upd) (by assumption) ?_); intro h' F' N'))
local macro_rules | `(tactic| walk_at "call ref") => `(tactic| (k_here; k_dflt (refine' piece_use (by omega) (by omega) (by k_asm) (by k_asm) (by k_asm) (by k_asm) (by k_asm) rfl (by k_room) (by k_units) ?_; k_whole); intro t' a' b' va' vb' ka' kb' h' tk' hS' hM' l1' l2' l3' F' N'; (try k_lt l1')))
local macro_rules | `(tactic| walk_at "call builtin:list.extend") => `(tactic| (k_here; k_dflt (refine' extend_led ?F ?N ?b ?e ?U ?_; (case F => k_asm); (case N => k_asm); (case b => k_mem); (case U => k_upd); (case e => first | exact ext_okS (by assumption) (by omega) | exact ext_okM (by assumption) (by omega))); intro h' F' N'))
local macro_rules | `(tactic| walk_at "subscriptTail Name Slice ref ref") => `(tactic| (k_here; k_dflt (refine' kms_slice_lit (by k_asm) (by k_asm) (by kmk_list) (by kmk_part) (by kmk_part) rfl ?_ (by with_unfolding_all rfl) (by kmk_pure) (by (rw [sizeLine_eq]; omega))); intro D' h' F' N' l1; (try k_lt l1)))
inductive TI1 (l₁ : Addr) (news : List (Addr × Obj)) (i : Nat) (nx : List (Addr × Obj)) : Prop
  | mk (cv : Array Value) (kk : Nat) (c : List Int) (q0 : nx = (l₁, PySem.W.listOf cv kk) :: news) (q1 : IntsAre cv.toList c) (q2 : c.length = 5) : TI1 l₁ news i nx
inductive TI2 (l₁ l₂ l₃ : Addr) (cv : Array Value) (kk : Nat) (news : List (Addr × Obj)) (i : Nat) (nx : List (Addr × Obj)) : Prop
  | mk (sv mv : Array Value) (ks km : Nat) (ps : List Int) (q0 : nx = (l₃, PySem.W.listOf mv km) :: (l₂, PySem.W.listOf sv ks) :: (l₁, PySem.W.listOf cv kk) :: news) (q1 : Built ps sv.toList mv.toList) (q2 : ps.length = 2 * i) : TI2 l₁ l₂ l₃ cv kk news i nx
inductive TI3 (l₁ l₂ l₃ l₄ I : Addr) (oI : Obj) (its cv : Array Value) (kk i : Nat) (news : List (Addr × Obj)) (j : Nat) (nx : List (Addr × Obj)) : Prop
  | mk (sv mv : Array Value) (ks km : Nat) (ps : List Int) (q0 : nx = (l₄, PySem.W.listOf its 0) :: (I, oI) :: (l₃, PySem.W.listOf mv km) :: (l₂, PySem.W.listOf sv ks) :: (l₁, PySem.W.listOf cv kk) :: news) (q1 : Built ps sv.toList mv.toList) (q2 : ps.length = 2 * i + j) : TI3 l₁ l₂ l₃ l₄ I oI its cv kk i news j nx
theorem text_c (w : World) (mean mg mb) (news : List (Addr × Obj)) (A : Addr) (vs : List Value) (ns : List Int) (hi : IntsAre vs ns) (hn : ns.length ≤ 63) (dp un : Nat) (gd : Option (List Code)) (cn : Str) (cs : Scope) (a : Addr) (ccd : Value) (cl : List (Str × Addr)) (outer : List Env) (A₀ : Around) (base h₀ : Heap) (L : Addr) (m : Str → Option Value) (s : Shared) (R : Result → Shared → Prop)
    (B : Below A₀ base outer h₀) (F : Fr h₀ L s.heap m) (X : (K w.params).In h₀) (N : News h₀ L s.heap news) (T : Top tq lz mean mg mb h₀) (hk : cs.kind = .function) (hl : h₀.IsList A vs.toArray)
    (hd : dp + 80 < recursionLimit) (hu : un + 800 < cLine) (hret : ∀ v' h' tk' news', TextOk news v' news' → Fr h₀ L h' m → News h₀ L h' news' → R (.ok (.ret v')) { s with heap := h', toks := tk' }) :
      codeAny (model pw w) (ktrTop dp un gd cn cs L a ccd cl outer) (.call (.ref 176) ⟨[.ref A], []⟩) R s := by
  cell_enter
  try dsimp only [unw]
  have hlg := hl.at fun o e => (by assumption : Fr h₀ L _ m).keep _ _ e
  have hlen : vs.toArray.size = ns.length := by rw [List.size_toArray]; exact hi.length
  k_steps
  rename_i l₁ h₁ _ _ _ _
  rename_i F1 N1 
  have hML : MoreBelow news l₁ := by assumption
  show wpAny _ _ (exec _ _) _ _ _
  refine' for_rangeV [] (n := ns.length) (a := 0) (fun i nx => TI1 l₁ news i nx) rfl F1 N1 ?hi ?hsm rfl rfl rfl ?hJ ?turn ?done
  case hi =>
    k_steps
    exact ⟨_, _, _, _, _, _, rfl, rfl, by simpa [hlen] using (by assumption : IsRange _ _ _ _ _ _ _ _), by assumption, by assumption⟩
  case hsm => exact small_one (by omega) (by omega) (by omega) (by omega)
  case hJ =>
    refine ⟨_, _, [25617, 20487, 39427, 7252, 7945], rfl, ?_, rfl⟩
    repeat' (first | exact IntsAre.nil | refine IntsAre.cons _ _ ?_)
  case turn =>
    rintro I i t u _ h tk oI E' hlt ⟨cv, kk, c, rfl, hc, hc5⟩ F2 N2 off
    dsimp only [ovr] at F2
    have f5 : 0 ≤ (0 + (i : Int)).fmod 5 ∧ (0 + (i : Int)).fmod 5 < 5 := by
      rw [Int.fmod_eq_emod_of_nonneg _ (by omega)]; exact ⟨Int.emod_nonneg _ (by omega), Int.emod_lt_of_pos _ (by omega)⟩
    have hcs : cv.size = 5 := by rw [← Array.length_toList, hc.length, hc5]
    have hb : 0 ≤ (0 + (i : Int)).fmod 5 ∧ (0 + (i : Int)).fmod 5 < 1000000 ∧ ((0 + (i : Int)).fmod 5).toNat < cv.size := ⟨by omega, by omega, by omega⟩
    have hn1 : @Ne Nat l₁ I := off (l₁, PySem.W.listOf cv kk) (.head _)
    have hn2 : ∀ p ∈ news, p.1 ≠ I := fun p hp => off p (.tail _ hp)
    k_steps
    refine TurnEnd2.next ((l₁, PySem.W.listOf (cv.setIfInBounds ((0 + (i : Int)).fmod 5).toNat _) kk) :: news) (by assumption) (by assumption) (by k_mem) (by kcf_all) (List.forall_mem_cons.mpr ⟨hn1, hn2⟩) ⟨⟨_, _, _, rfl, by rw [Array.toList_setIfInBounds]; exact ints_set hc, by simpa using hc5⟩, fun z hz => ?_⟩
    have hz' : z ≠ Str.ofString "k" := fun e => hz (by rw [e]; exact .head _)
    rw [if_neg hz']
  case done =>
    rintro u _ h tk ⟨cv, kk, c, rfl, hc, hc5⟩ F2 N2
    dsimp only [ovr] at F2
    k_steps
    rename_i l₂ hA lt₂ hB l₃ hC lt₃ h₃ F3 N3
    show wpAny _ _ (exec _ _) _ _ _
    refine' for_listV (D := l₁) (items := cv) (k := kk) [Str.ofString "n", Str.ofString "piece"] (fun i nx => TI2 l₁ l₂ l₃ cv kk news i nx) rfl F3 N3 ?hi ?hL ?hx ?hp ?hJ ?hD ?turn ?done
    case hL => rfl
    case hx => rfl
    case hp => rfl
    case hi =>
      k_steps
      all_goals assumption
    case hJ => exact ⟨_, _, _, _, [], rfl, ⟨.nil, .nil, fun _ h => (nomatch h)⟩, rfl⟩
    case hD =>
      rintro i _ ⟨sv, mv, ks, km, ps, rfl, _⟩
      exact .tail _ (.tail _ (.head _))
    case turn =>
      rintro I i v u₂ _ h tk oI E' hv ⟨sv, mv, ks, km, ps, rfl, hb, hps⟩ F4 N4 off
      dsimp only [ovr] at F4
      have hi5 : i < 5 := by
        have := (Array.getElem?_eq_some_iff.mp hv).1
        rw [← Array.length_toList, hc.length, hc5] at this
        exact this
      obtain ⟨ti, hti⟩ := ints_at hc (by rw [hc5]; exact hi5)
      have hv' : v = .int (c.getD i 0) ti := by
        rw [Array.getElem?_toList, hv] at hti
        exact Option.some.inj hti
      subst hv'
      generalize c.getD i 0 = x at *
      have hn3 : @Ne Nat l₃ I := off _ (.head _)
      have hn2 : @Ne Nat l₂ I := off _ (.tail _ (.head _))
      have hn1 : @Ne Nat l₁ I := off _ (.tail _ (.tail _ (.head _)))
      have hn0 : ∀ p ∈ news, p.1 ≠ I := fun p hp => off p (.tail _ (.tail _ (.tail _ hp)))
      k_steps
      show wpAny _ _ (exec _ _) _ _ _
      refine' for_listE rfl F4 ?h rfl rfl rfl
      k_steps
      rename_i l₄ h₄ F5 N5 lt₄
      have fm : ∀ (a m : Int), 0 < m → 0 ≤ a.fmod m ∧ a.fmod m < m := fun a m h => by
        rw [Int.fmod_eq_emod_of_nonneg _ (by omega)]; exact ⟨Int.emod_nonneg _ (by omega), Int.emod_lt_of_pos _ h⟩
      have f1 := fm x 512 (by omega)
      have f2 := fm (x.fdiv 512) 512 (by omega)
      generalize hits : (#[Value.int (x.fmod 512) _, Value.int ((x.fdiv 512).fmod 512) _] : Array Value) = its at N5
      refine ForAt.intro (items := its) (k := 0) [Str.ofString "piece"] (fun j nx => TI3 l₁ l₂ l₃ l₄ I oI its cv kk i news j nx) F5 N5 ?_ ?_ ?_ ?_
      · exact ⟨_, _, _, _, _, rfl, hb, by omega⟩
      · rintro j _ ⟨sv, mv, ks, km, ps, rfl, _⟩
        exact .head _
      · rintro I2 j v u₃ _ h tk oI2 E2 hv2 ⟨sv, mv, ks, km, ps, rfl, hb, hps⟩ F6 N6 off2
        dsimp only [ovr] at F6
        have hj2 : j < 2 ∧ ∃ y t, v = .int y t ∧ 0 ≤ y ∧ y < 512 := by
          subst hits
          match j, hv2 with
          | 0, hv2 => exact ⟨by omega, _, _, (Option.some.inj hv2).symm, f1.1, f1.2⟩
          | 1, hv2 => exact ⟨by omega, _, _, (Option.some.inj hv2).symm, f2.1, f2.2⟩
          | j + 2, hv2 => simp at hv2
        obtain ⟨hj2, y, ty, rfl, hy0, hy1⟩ := hj2
        have on4 : @Ne Nat l₄ I2 := off2 _ (.head _)
        have onI : @Ne Nat I I2 := off2 _ (.tail _ (.head _))
        have on3 : @Ne Nat l₃ I2 := off2 _ (.tail _ (.tail _ (.head _)))
        have on2 : @Ne Nat l₂ I2 := off2 _ (.tail _ (.tail _ (.tail _ (.head _))))
        have on1 : @Ne Nat l₁ I2 := off2 _ (.tail _ (.tail _ (.tail _ (.tail _ (.head _)))))
        have on0 : ∀ p ∈ news, p.1 ≠ I2 := fun p hp => off2 p (.tail _ (.tail _ (.tail _ (.tail _ (.tail _ hp)))))
        have hsz := hb.size
        simp only [Array.length_toList] at hsz
        k_steps
        refine TurnEnd2.next ((l₄, PySem.W.listOf its 0) :: (I, oI) :: (l₃, PySem.W.listOf _ _) :: (l₂, PySem.W.listOf _ _) :: (l₁, PySem.W.listOf cv kk) :: news) (by assumption) (by assumption) (by k_mem) (by kcf_all) ?_ ⟨TI3.mk _ _ _ _ (ps ++ [y]) rfl ?_ ?_, ?_⟩
        · exact List.forall_mem_cons.mpr ⟨on4, List.forall_mem_cons.mpr ⟨onI, List.forall_mem_cons.mpr ⟨on3, List.forall_mem_cons.mpr ⟨on2, List.forall_mem_cons.mpr ⟨on1, on0⟩⟩⟩⟩⟩
        · exact hb.snoc hy0 hy1 (by assumption) (by assumption)
        · rw [List.length_append, List.length_singleton]; omega
        · intro z hz
          have hz1 : z ≠ Str.ofString "n" := fun e => hz (by rw [e]; exact .head _)
          have hz2 : z ≠ Str.ofString "piece" := fun e => hz (by rw [e]; exact .tail _ (.head _))
          simp only [if_neg hz1, if_neg hz2]
      · rintro u₃ _ h tk ⟨sv, mv, ks, km, ps, rfl, hb, hps⟩ F6 N6
        dsimp only [ovr] at F6
        k_steps
        have hi2 : its.size = 2 := by rw [← hits]; rfl
        refine TurnEnd2.next ((l₃, PySem.W.listOf _ _) :: (l₂, PySem.W.listOf _ _) :: (l₁, PySem.W.listOf cv kk) :: news) (by assumption) (by assumption) (by k_mem) (by kcf_all) ?_ ⟨⟨_, _, _, _, ps, rfl, hb, by omega⟩, ?_⟩
        · exact List.forall_mem_cons.mpr ⟨hn3, List.forall_mem_cons.mpr ⟨hn2, List.forall_mem_cons.mpr ⟨hn1, hn0⟩⟩⟩
        · intro z hz
          have hz1 : z ≠ Str.ofString "n" := fun e => hz (by rw [e]; exact .tail _ (.head _))
          have hz2 : z ≠ Str.ofString "piece" := fun e => hz (by rw [e]; exact .tail _ (.tail _ (.head _)))
          have hz3 : z ≠ Str.ofString "cell" := fun e => hz (by rw [e]; exact .head _)
          simp only [if_neg hz1, if_neg hz2, if_neg hz3]
    case done =>
      rintro u₂ _ h tk ⟨sv, mv, ks, km, ps, rfl, hb, hps⟩ F4 N4
      dsimp only [ovr] at F4
      have hsz := hb.size
      simp only [Array.length_toList] at hsz
      have hcs : cv.size = 5 := by rw [← Array.length_toList, hc.length, hc5]
      k_steps
      refine text_end hret (by assumption) (by assumption) hb (by omega) (by kcf_all) ?_ (by omega) (by omega)
      exact allLt_of fun p hp => Nat.lt_trans (hML p hp) (by omega)
end
section
open PySem PySem.W PySem.Calls PyProof.Rows PySem.Spec
set_option maxHeartbeats 2000000
noncomputable def TurnW (h₀ : Heap) (L : Addr) (J : Nat → (Str → Option Value) → List (Addr × Obj) → Prop) (k : Nat) (s : Shared) (Q : Flow → Shared → Prop) (f : Flow) (s₂ : Shared) : Prop :=
  match f with
  | .ret v => Q (.ret v) s₂
  | .brk => Q .next s₂
  | _ => ∃ k' h' tk' m' nx, k' < k ∧ s₂ = { s with heap := h', toks := tk' } ∧ Fr h₀ L h' m' ∧ News h₀ L h' nx ∧ J k' m' nx
section
variable {w : World} {A : Around} {E : Value → Shared → Prop} {s : Shared} {h₀ : Heap} {L : Addr} {env : Env}
theorem while_led {test : Expr} {body : List Stmt} {pos : Pos} {Q : Flow → Shared → Prop} {m₀ : Str → Option Value} {news : List (Addr × Obj)} (J : Nat → (Str → Option Value) → List (Addr × Obj) → Prop) (k₀ : Nat)
    (F : Fr h₀ L s.heap m₀) (N : News h₀ L s.heap news) (hJ : J k₀ m₀ news)
    (turn : ∀ k m nx h tk (E' : Value → Shared → Prop), J k m nx → Fr h₀ L h m → News h₀ L h nx →
      wpAny (model pw w) A (isTrue test env (eval test env)) (fun b s₂ => if b then wpAny (model pw w) A (execs body env) (TurnW h₀ L J k { s with heap := h, toks := tk } Q) E' s₂ else Q .next s₂) E' { s with heap := h, toks := tk }) :
    wpAny (model pw w) A (exec (.While test body [] pos) env) Q E s := by
  refine wpAny_While ?_
  refine codeAny_whileLoop (fun k s' => ∃ h tk m nx, s' = { s with heap := h, toks := tk } ∧ Fr h₀ L h m ∧ News h₀ L h nx ∧ J k m nx) ?_ k₀ ⟨s.heap, s.toks, m₀, news, rfl, F, N, hJ⟩
  rintro k s' ⟨h, tk, m, nx, rfl, F₁, N₁, hJ₁⟩
  refine wpAny_mono (turn k m nx h tk _ hJ₁ F₁ N₁) (fun b s₂ h₂ => ?_) fun _ _ e => e
  cases b with
  | false => exact wpAny_execs_nil h₂
  | true =>
    simp only [if_true] at h₂ ⊢
    refine wpAny_mono h₂ (fun f s₃ h₃ => ?_) fun _ _ e => e
    have next : (∃ k' h' tk' m' nx, k' < k ∧ s₃ = { ({ s with heap := h, toks := tk } : Shared) with heap := h', toks := tk' } ∧ Fr h₀ L h' m' ∧ News h₀ L h' nx ∧ J k' m' nx) →
        ∃ k', k' < k ∧ ∃ h tk m nx, s₃ = { s with heap := h, toks := tk } ∧ Fr h₀ L h m ∧ News h₀ L h nx ∧ J k' m nx := by
      rintro ⟨k', h', tk', m', nx', hk, rfl, F', N', hJ'⟩
      exact ⟨k', hk, h', tk', m', nx', rfl, F', N', hJ'⟩
    cases f with
    | next => exact next h₃
    | cont => exact next h₃
    | brk => exact h₃
    | ret v => exact h₃
end
theorem sub_last {w : World} {A : Around} {E : Value → Shared → Prop} {s : Shared} {g : Heap} {L l : Addr} {news : List (Addr × Obj)} {items : Array Value} {kl : Nat} {t : Tok} {x : Value} {value slice : PySem.Expr} {Q : Value → Shared → Prop} (N : News g L s.heap news) (hm : (l, PySem.W.listOf items kl) ∈ news)
    (hx : items.toList.getLast? = some x) (hs : subscripted slice false (.ref l) (.int (-1) t) = operate [.ref l, .int (-1) t] (getItem (.ref l) (.int (-1) t))) (h : Q x s) :
    wpAny (model pw w) A (subscriptTail value slice (.ref l) (.int (-1) t)) Q E s := by
  have hp : 1 ≤ items.toList.length := by
    cases h9 : items.toList with
    | nil => rw [h9] at hx; cases hx
    | cons a b => simp
  refine kde_neg (vs := items.toList) (j := items.toList.length - 1) (by rw [Array.toArray_toList]; exact ⟨_, (N _ hm).1, rfl, _, rfl⟩) (by omega) (by omega) ?_ ?_ h hs
  · unfold seqIndex?
    simp
    simp only [Array.length_toList] at hp
    omega
  · rw [← List.getLast?_eq_getElem?]; exact hx
theorem filter_last {α : Type} {p : α → Bool} : ∀ {l : List α} {i : Nat} {v : α}, l[i]? = some v → p v = true → (∀ j v', i < j → l[j]? = some v' → p v' = false) → (l.filter p).getLast? = some v
  | [], _, _, h, _, _ => by simp at h
  | a :: l, 0, v, h, hv, hn => by
    have e : a = v := by simpa using h
    subst e
    have : l.filter p = [] := List.filter_eq_nil_iff.mpr fun x hx => by
      obtain ⟨j, hj, e⟩ := List.mem_iff_getElem.mp hx
      rw [hn (j + 1) x (by omega) (by simp [hj, e])]
      simp
    rw [List.filter_cons, if_pos hv, this]
    rfl
  | a :: l, i + 1, v, h, hv, hn => by
    have ih := filter_last (l := l) (i := i) (p := p) (v := v) (by simpa using h) hv fun j v' hj hv' => hn (j + 1) v' (by omega) (by simpa using hv')
    rw [List.filter_cons]
    split
    · rw [List.getLast?_cons, ih]; rfl
    · exact ih
theorem paired_last {α β : Type} {F : α → β → Prop} : ∀ {l : List α} {ys : List β} {v : α}, Paired F l ys → l.getLast? = some v → ∃ y, ys.getLast? = some y ∧ F v y
  | _, _, _, .nil, h => by simp at h
  | _, _, v, .cons (a := a) (b := b) (l₁ := l₁) (l₂ := l₂) h1 h2, h => by
    rw [List.getLast?_cons] at h
    rw [List.getLast?_cons]
    cases h9 : l₁.getLast? with
    | none =>
      rw [h9] at h
      have e : a = v := by simpa using h
      have e2 : l₁ = [] := List.getLast?_eq_none_iff.mp h9
      subst e2
      cases h2
      exact ⟨b, rfl, e ▸ h1⟩
    | some x =>
      rw [h9] at h
      have e : x = v := by simpa using h
      subst e
      obtain ⟨y, hy, hF⟩ := paired_last h2 h9
      exact ⟨y, by rw [hy]; rfl, hF⟩
theorem TurnW.next {h₀ h' : Heap} {L : Addr} {J : Nat → (Str → Option Value) → List (Addr × Obj) → Prop} {k : Nat} {s : Shared} {Q : Flow → Shared → Prop} {m' : Str → Option Value} {all : List (Addr × Obj)} {tk' : Nat} (k' : Nat) (nx : List (Addr × Obj)) (hk : k' < k) (F : Fr h₀ L h' m') (N : News h₀ L h' all) (sub : ∀ p ∈ nx, p ∈ all) (hJ : J k' m' nx) :
    TurnW h₀ L J k s Q .next { s with heap := h', toks := tk' } := ⟨k', h', tk', m', nx, hk, rfl, F, news_sub N sub, hJ⟩
end
section
local macro_rules | `(tactic| kpc_none) => `(tactic| grind)
structure RowsOk (lv : Nat → Nat) (r : Nat → Nat) (m : Nat) : Prop where
  zero : r 0 = 1
  step : ∀ k, k < m → ∃ j, j ≤ k ∧ r (k + 1) = r k + r j ∧ lv (r k) ≤ r j ∧ ∀ i, i < j → r i < lv (r k)
namespace RowsOk
variable {lv r : Nat → Nat} {m : Nat}
theorem pos (R : RowsOk lv r m) : ∀ k, k ≤ m → 1 ≤ r k := by
  intro k
  induction k using Nat.strongRecOn with
  | _ k ih =>
    intro hk
    cases k with
    | zero => rw [R.zero]; exact Nat.le_refl _
    | succ k =>
      obtain ⟨j, hj, e, _, _⟩ := R.step k (by omega)
      have := ih k (by omega) (by omega)
      omega
theorem lt_succ (R : RowsOk lv r m) {k : Nat} (hk : k < m) : r k < r (k + 1) := by
  obtain ⟨j, hj, e, _, _⟩ := R.step k hk
  have := R.pos j (by omega)
  omega
theorem mono (R : RowsOk lv r m) {i : Nat} : ∀ {j : Nat}, i < j → j ≤ m → r i < r j := by
  intro j
  induction j with
  | zero => intro h; omega
  | succ j ih =>
    intro h hj
    have := R.lt_succ (k := j) (by omega)
    by_cases e : i = j
    · subst e; exact this
    · have := ih (by omega) (by omega); omega
theorem mono' (R : RowsOk lv r m) {i j : Nat} (hi : i ≤ m) (h : r i < r j) (_ : j ≤ m) : i < j := by
  by_cases e : i < j
  · exact e
  · by_cases e' : i = j
    · subst e'; omega
    · have := R.mono (i := j) (j := i) (by omega) hi; omega
theorem between (R : RowsOk lv r m) {n : Nat} (h1 : 1 ≤ n) : ∀ k, k ≤ m → n ≤ r k → (∃ i, i ≤ k ∧ n = r i) ∨ ∃ i, i < k ∧ r i < n ∧ n < r (i + 1) := by
  intro k
  induction k with
  | zero => intro _ h; left; exact ⟨0, Nat.le_refl _, by rw [R.zero] at h ⊢; omega⟩
  | succ k ih =>
    intro hk h
    by_cases e : n ≤ r k
    · rcases ih (by omega) e with ⟨i, hi, e⟩ | ⟨i, hi, a, b⟩
      · left; exact ⟨i, by omega, e⟩
      · right; exact ⟨i, by omega, a, b⟩
    · by_cases e2 : n = r (k + 1)
      · left; exact ⟨k + 1, Nat.le_refl _, e2⟩
      · right; exact ⟨k, Nat.lt_succ_self _, by omega, by omega⟩
end RowsOk
structure LastPart (r : Nat → Nat) (m : Nat) (f : Nat → Nat) : Prop where
  row : ∀ k, k ≤ m → f (r k) = r k
  cut : ∀ k n, k < m → r k < n → n < r (k + 1) → f n = f (n - r k)
section
variable {lv r f : Nat → Nat} {m : Nat}
theorem part_le (R : RowsOk lv r m) (L : LastPart r m f) : ∀ n, 1 ≤ n → n ≤ r m → 1 ≤ f n ∧ f n ≤ n := by
  intro n
  induction n using Nat.strongRecOn with
  | _ n ih =>
    intro h1 h2
    rcases R.between h1 m (Nat.le_refl _) h2 with ⟨i, hi, rfl⟩ | ⟨i, hi, a, b⟩
    · rw [L.row i hi]; exact ⟨h1, Nat.le_refl _⟩
    · rw [L.cut i n hi a b]
      have := R.pos i (by omega)
      have := ih (n - r i) (by omega) (by omega) (by omega)
      omega
theorem leftover (R : RowsOk lv r m) {i n : Nat} (hi : i < m) (a : r i < n) (b : n < r (i + 1)) : ∃ j, j ≤ i ∧ n - r i < r j ∧ ∀ p, p ≤ m → r p ≤ n - r i → r p < lv (r i) := by
  obtain ⟨j, hj, e, h1, h2⟩ := R.step i hi
  refine ⟨j, hj, by omega, fun p hp h => h2 p ?_⟩
  exact R.mono' hp (by omega) (by omega)
theorem part_row (R : RowsOk lv r m) (L : LastPart r m f) : ∀ n, 1 ≤ n → n ≤ r m → ∃ p, p ≤ m ∧ f n = r p := by
  intro n
  induction n using Nat.strongRecOn with
  | _ n ih =>
    intro h1 h2
    rcases R.between h1 m (Nat.le_refl _) h2 with ⟨i, hi, rfl⟩ | ⟨i, hi, a, b⟩
    · exact ⟨i, hi, L.row i hi⟩
    · rw [L.cut i n hi a b]
      have := R.pos i (by omega)
      exact ih (n - r i) (by omega) (by omega) (by omega)
theorem part_wins (R : RowsOk lv r m) (L : LastPart r m f) : ∀ n, 1 ≤ n → n ≤ r m → f n < n → f n < lv (f (n - f n)) := by
  intro n
  induction n using Nat.strongRecOn with
  | _ n ih =>
    intro h1 h2 h3
    rcases R.between h1 m (Nat.le_refl _) h2 with ⟨i, hi, rfl⟩ | ⟨i, hi, a, b⟩
    · rw [L.row i hi] at h3; omega
    · have hp := R.pos i (by omega)
      have e := L.cut i n hi a b
      obtain ⟨j, hj, hlt, hrow⟩ := leftover R hi a b
      have hq := part_le R L (n - r i) (by omega) (by omega)
      by_cases hf : f (n - r i) = n - r i
      · have e2 : n - f n = r i := by omega
        rw [e2, L.row i (by omega)]
        obtain ⟨p, hp', e3⟩ := part_row R L (n - r i) (by omega) (by omega)
        have := hrow p hp' (by omega)
        omega
      · have h4 := ih (n - r i) (by omega) (by omega) (by omega) (by omega)
        have e5 := L.cut i (n - f n) hi (by omega) (by omega)
        rw [e5, e]
        have e6 : n - f (n - r i) - r i = n - r i - f (n - r i) := by omega
        rw [e6]
        exact h4
theorem less_loses (R : RowsOk lv r m) (L : LastPart r m f) (hm : ∀ a b, a ≤ b → lv a ≤ lv b) : ∀ n, 1 ≤ n → n ≤ r m → ∀ t, 0 < t → t < f n → lv (f (n - t)) ≤ t := by
  intro n
  induction n using Nat.strongRecOn with
  | _ n ih =>
    intro h1 h2 t ht ht2
    rcases R.between h1 m (Nat.le_refl _) h2 with ⟨i, hi, rfl⟩ | ⟨i, hi, a, b⟩
    · rw [L.row i hi] at ht2
      cases i with
      | zero => rw [R.zero] at ht2; omega
      | succ i =>
        obtain ⟨j, hj, e, hl, _⟩ := R.step i (by omega)
        by_cases hc : r (i + 1) - t ≤ r i
        · have hq := part_le R L (r (i + 1) - t) (by omega) (by omega)
          have := hm (f (r (i + 1) - t)) (r i) (by omega)
          omega
        · have hpi := R.pos i (by omega)
          have e2 := L.cut i (r (i + 1) - t) (by omega) (by omega) (by omega)
          rw [e2]
          have hjm : r j ≤ r m := by
            by_cases q : j = m
            · rw [q]; exact Nat.le_refl _
            · exact Nat.le_of_lt (R.mono (i := j) (j := m) (by omega) (Nat.le_refl _))
          have := ih (r j) (by omega) (R.pos j (by omega)) hjm t ht (by rw [L.row j (by omega)]; omega)
          have e3 : r (i + 1) - t - r i = r j - t := by omega
          rw [e3]
          exact this
    · have hp := R.pos i (by omega)
      have e := L.cut i n hi a b
      have hq := part_le R L (n - r i) (by omega) (by omega)
      have h3 := ih (n - r i) (by omega) (by omega) (by omega) t ht (by omega)
      have e2 := L.cut i (n - t) hi (by omega) (by omega)
      rw [e2]
      have e3 : n - t - r i = n - r i - t := by omega
      rw [e3]
      exact h3
end
noncomputable def winsUp (lv : Nat → Nat) : Nat → List (List Nat)
  | 0 => [[]]
  | n + 1 => winsUp lv n ++ [(List.range' 1 (n + 1)).filter fun t => (((winsUp lv n).getD (n + 1 - t) []).filter fun u => decide (lv u ≤ t)) == []]
theorem winsUp_len (lv : Nat → Nat) : ∀ n, (winsUp lv n).length = n + 1
  | 0 => rfl
  | n + 1 => by rw [winsUp, List.length_append, winsUp_len lv n]; rfl
theorem winsUp_pre (lv : Nat → Nat) {k : Nat} : ∀ n, k ≤ n → (winsUp lv n).getD k [] = (winsUp lv k).getD k []
  | 0, h => by rw [show k = 0 by omega]
  | n + 1, h => by
    by_cases e : k = n + 1
    · subst e; rfl
    · rw [← winsUp_pre lv n (by omega), winsUp, List.getD_eq_getElem?_getD, List.getD_eq_getElem?_getD, List.getElem?_append_left (by rw [winsUp_len]; omega)]
theorem schwenk {lv r f : Nat → Nat} {m : Nat} (R : RowsOk lv r m) (L : LastPart r m f) (hm : ∀ a b, a ≤ b → lv a ≤ lv b) :
    ∀ n, 1 ≤ n → n ≤ r m → ((winsUp lv n).getD n []).head? = some (f n) ∧ ∀ u ∈ (winsUp lv n).getD n [], f n ≤ u := by
  intro n
  induction n using Nat.strongRecOn with
  | _ n ih =>
    intro h1 h2
    cases n with
    | zero => omega
    | succ n =>
      have hd : (winsUp lv (n + 1)).getD (n + 1) [] = (List.range' 1 (n + 1)).filter fun t => (((winsUp lv n).getD (n + 1 - t) []).filter fun u => decide (lv u ≤ t)) == [] := by
        rw [winsUp, List.getD_eq_getElem?_getD, List.getElem?_append_right (by rw [winsUp_len]; omega), winsUp_len]
        simp
      have hq := part_le R L (n + 1) h1 h2
      have key : ∀ t, 1 ≤ t → t < n + 1 → ((((winsUp lv n).getD (n + 1 - t) []).filter fun u => decide (lv u ≤ t)) == []) = decide (t < lv (f (n + 1 - t))) := by
        intro t ht ht2
        rw [winsUp_pre lv n (by omega)]
        obtain ⟨e1, e2⟩ := ih (n + 1 - t) (by omega) (by omega) (by omega)
        by_cases hc : t < lv (f (n + 1 - t))
        · rw [decide_eq_true hc, List.filter_eq_nil_iff.mpr]
          · rfl
          · intro u hu
            have := hm _ _ (e2 u hu)
            simp; omega
        · rw [decide_eq_false hc]
          have hmem : f (n + 1 - t) ∈ (winsUp lv (n + 1 - t)).getD (n + 1 - t) [] := List.mem_of_head? e1
          have : f (n + 1 - t) ∈ ((winsUp lv (n + 1 - t)).getD (n + 1 - t) []).filter fun u => decide (lv u ≤ t) := List.mem_filter.mpr ⟨hmem, by simp; omega⟩
          cases h9 : ((winsUp lv (n + 1 - t)).getD (n + 1 - t) []).filter fun u => decide (lv u ≤ t) with
          | nil => rw [h9] at this; cases this
          | cons a b => rfl
      have hin : ((((winsUp lv n).getD (n + 1 - f (n + 1)) []).filter fun u => decide (lv u ≤ f (n + 1))) == []) = true := by
        by_cases hc : f (n + 1) = n + 1
        · rw [hc, Nat.sub_self, winsUp_pre lv n (Nat.zero_le _)]
          rfl
        · rw [key _ hq.1 (by omega)]
          exact decide_eq_true (part_wins R L (n + 1) h1 h2 (by omega))
      have hout : ∀ t, 1 ≤ t → t < f (n + 1) → ((((winsUp lv n).getD (n + 1 - t) []).filter fun u => decide (lv u ≤ t)) == []) = false := by
        intro t ht ht2
        rw [key t ht (by omega)]
        exact decide_eq_false (by have := less_loses R L hm (n + 1) h1 h2 t (by omega) ht2; omega)
      rw [hd]
      refine ⟨?_, ?_⟩
      · rw [List.head?_filter, List.find?_range'_eq_some]
        refine ⟨hin, ?_, ?_⟩
        · rw [List.mem_range'_1]; omega
        · intro j hj hj2
          rw [hout j hj hj2]; rfl
      · intro u hu
        obtain ⟨hu1, hu2⟩ := List.mem_filter.mp hu
        rw [List.mem_range'_1] at hu1
        by_cases hc : f (n + 1) ≤ u
        · exact hc
        · rw [hout u hu1.1 (by omega)] at hu2; cases hu2
end
section
open PySem PySem.W PySem.Calls PyProof.Rows PySem.Spec
set_option maxHeartbeats 2000000
local macro_rules | `(tactic| kpc_none) => `(tactic| grind)

local macro_rules | `(tactic| walk_at "eval ListComp") => `(tactic| (k_here; refine stop_intro ?_))
local macro_rules | `(tactic| walk_at "exec While") => `(tactic| (k_here; refine stop_intro ?_))
theorem notin_led {w : World} {A : Around} {E : Value → Shared → Prop} {s : Shared} {g : Heap} {L l : Addr} {news : List (Addr × Obj)} {items : Array Value} {ns : List Int} {kl : Nat} {k : Int} {t : Tok} {Q : Value → Shared → Prop} (N : News g L s.heap news) (hm : (l, PySem.W.listOf items kl) ∈ news) (hi : IntsAre items.toList ns)
    (h : Q (.bool (!(ns.any (· == k)))) s) : wpAny (model pw w) A (compareOp .NotIn (.int k t) (.ref l)) Q E s :=
  notin_list_ints (vs := items.toList) (by rw [Array.toArray_toList]; exact ⟨_, (N _ hm).1, rfl, _, rfl⟩) hi h
local macro_rules | `(tactic| walk_at "compareOp NotIn int ref") => `(tactic| (k_here; k_dflt (refine' notin_led (by k_asm) (by k_mem) (by assumption) ?_)))
local macro_rules | `(tactic| walk_at "subscriptTail Name") => `(tactic| (k_here; k_dflt (refine' sub_ints (by k_asm) (by k_mem) (by assumption) (by assumption) (by with_unfolding_all rfl) (by (intro _; with_unfolding_all rfl)) ?_); intro t'))
local macro_rules | `(tactic| walk_at "call ref") => `(tactic| (k_here; k_dflt (refine' pure_use (lt_y _ _ _ _ _ _ _ _ _) (by k_asm) (by k_asm) (by k_asm) (by k_asm) (by k_asm) rfl (by k_room) (by k_units) ?_; k_whole); intro v' h' tk' hok hkeep; subst hok))
local macro_rules | `(tactic| walk_at "call ref") => `(tactic| (k_here; k_dflt (refine' pure_useY (sub_y _ _ _ _ _ _ _ _ _) (by k_asm) (by k_asm) (by k_asm) (by k_asm) (by k_asm) rfl (by k_room) (by k_units) ?_; k_whole); intro v' h' tk' hok F' N' G'; (obtain ⟨t', he'⟩ := hok); subst he'))
local macro_rules | `(tactic| walk_at "call ref") => `(tactic| (k_here; k_dflt (refine' pure_useY (add_y _ _ _ _ _ _ _ _ _) (by k_asm) (by k_asm) (by k_asm) (by k_asm) (by k_asm) rfl (by k_room) (by k_units) ?_; k_whole); intro v' h' tk' hok F' N' G'; (obtain ⟨t', he'⟩ := hok); subst he'))
local macro_rules | `(tactic| walk_at "last subscriptTail") => `(tactic| (k_here; k_dflt (refine' sub_last (by k_asm) (by k_mem) (by assumption) (by with_unfolding_all rfl) ?_)))
theorem cell_val {o : Obj} {a b : Int} {t : Tok} (d : o.data = .cell (some (.int a t))) (e : a = b) : ∃ t : Tok, o.data = .cell (some (.int b t)) := ⟨t, by rw [d, e]⟩
noncomputable def lineI (r : Nat → Nat) (k : Nat) : Int := if k % 2 = 1 then (r k : Int) else -(r k : Int)
theorem last_c (w : World) (mean mg mb) (more : List (Addr × Obj)) (rR rL : Addr) (rv lv : Array Value) (kr kl : Nat) (lw r f : Nat → Nat) (M : Nat) (hM : M ≤ 1000) (R9 : RowsOk lw r M) (L9 : LastPart r M f) (hr : IntsAre rv.toList ((List.range (M + 1)).map fun k => (r k : Int))) (hl : IntsAre lv.toList ((List.range (M + 1)).map (lineI r))) (n : Nat) (tn : Tok) (h1 : 1 ≤ n) (h2 : n ≤ r M) (hne : @Ne Nat rR rL) :
    KCz w mean mg mb 186 ((rR, PySem.W.listOf rv kr) :: (rL, PySem.W.listOf lv kl) :: more) [.int n tn, .ref rR, .ref rL] (fun v news' => news' = (rR, PySem.W.listOf rv kr) :: (rL, PySem.W.listOf lv kl) :: more ∧ ∃ t, v = .int (f n) t) := by
  unfold KCz
  intros
  rename_i hret
  refine' code_defC ?k1 ?k2 ?k3 ?k4 ?k5 ?kA ?kF ?kK ?k6 ?k7 ?k8 ?k9 ?kB ?kD ?_ ?c2 ?c3 ?c4; (case kA => exact rfl); (case kF => exact rfl); (case kK => assumption); (case k1 => k_asm); (case k2 => k_asm); (case k3 => k_asm); (case k4 => k_asm); (case k5 => k_asm); (case k6 => k_is); (case k7 => k_is); (case k8 => ktr_room); (case k9 => exact BindsTo.of_eq rfl); (case kB => exact rfl); (case kD => decide +kernel); (case c2 => exact rfl); (case c3 => exact rfl); (case c4 => exact rfl); k_whole; intro g' L' h' tk' cells' FG' F' N' Y' B' X' T' l1; (have hML : MoreBelow more L' := fun p hp => l1 p (.tail _ (.tail _ hp))); (try k_lt l1); k_cells Y'; (try simp only [List.cons_append, List.nil_append] at N'); (try dsimp only); (try k_lift B'); (try k_fold)
  rename_i o1 o2 o3 d1 d2 d3
  replace d1 : o1.data = .cell (some (.ref rL)) := d1
  replace d2 : o2.data = .cell (some (.ref rR)) := d2
  replace d3 : o3.data = .cell (some (.int n tn)) := d3
  have hrs : rv.size = M + 1 := by rw [← Array.length_toList, hr.length]; simp
  have hls : lv.size = M + 1 := by rw [← Array.length_toList, hl.length]; simp
  have hre : ∀ i, i ≤ M → ((List.range (M + 1)).map fun k => (r k : Int)).getD i 0 = r i := fun i hi => by
    rw [List.getD_eq_getElem?_getD, List.getElem?_map, List.getElem?_range (by omega)]; rfl
  have hle : ∀ i, i ≤ M → ((List.range (M + 1)).map (lineI r)).getD i 0 = lineI r i := fun i hi => by
    rw [List.getD_eq_getElem?_getD, List.getElem?_map, List.getElem?_range (by omega)]; rfl
  generalize hrows : ((List.range (M + 1)).map fun k => (r k : Int)) = rows at *
  generalize hline : (List.range (M + 1)).map (lineI r) = line at *
  k_steps
  show wpAny _ _ (exec _ _) _ _ _
  refine' while_led (fun k m nx => ∃ (hp : Nat) (oH : Obj), nx = (L' + 1 + 1 + 1, o1) :: (L' + 1 + 1, o2) :: (L' + 1, oH) :: (rR, PySem.W.listOf rv kr) :: (rL, PySem.W.listOf lv kl) :: more ∧ (∃ th : Tok, oH.data = .cell (some (.int hp th))) ∧ 1 ≤ hp ∧ hp ≤ r M ∧ f hp = f n ∧ k = hp) n F' N' ?hJ ?turn
  case hJ => exact ⟨n, o3, rfl, ⟨tn, d3⟩, h1, h2, rfl, rfl⟩
  case turn =>
    rintro k m _ h tk E' ⟨hp, oH, rfl, ⟨th, dH⟩, hp1, hp2, hpf, rfl⟩ F1 N1
    have hin : (rows.any fun x => x == (k : Int)) = true ↔ ∃ i, i ≤ M ∧ r i = k := by
      rw [← hrows, List.any_eq_true]
      constructor
      · rintro ⟨x, hx, e⟩
        obtain ⟨i, hi, rfl⟩ := List.mem_map.mp hx
        exact ⟨i, by have := List.mem_range.mp hi; omega, by have := eq_of_beq e; omega⟩
      · rintro ⟨i, hi, e⟩
        exact ⟨(r i : Int), List.mem_map.mpr ⟨i, List.mem_range.mpr (by omega), rfl⟩, by rw [e]; simp⟩
    k_steps
    · rename_i hany _ _ _ _
      obtain ⟨i, hi, rfl⟩ := hin.mp (by assumption)
      rw [L9.row i hi] at hpf
      rw [hpf]
      exact hret _ _ _ _ ⟨rfl, _, rfl⟩ (by assumption) (by first | assumption | exact fun q hq => (by assumption : News _ _ _ _) q (by repeat (first | exact hq | apply List.Mem.tail)))
    · rename_i hany
      have hnot : ∀ i, i ≤ M → r i ≠ k := fun i hi e => by
        have := hin.mpr ⟨i, hi, e⟩
        rw [hany] at this; cases this
      obtain ⟨i, hi, hlo, hhi⟩ : ∃ i, i < M ∧ r i < k ∧ k < r (i + 1) := by
        rcases R9.between hp1 M (Nat.le_refl _) hp2 with ⟨i, hi, e⟩ | h
        · exact absurd e.symm (hnot i hi)
        · exact h
      have S4 : Stand g' L' _ _ h := ⟨F1, N1⟩
      show wpAny _ _ (eval (Expr.ListComp _ _ _ _) _) _ _ _
      refine' comp_range (g := g') (L := L') (news := _) (fun v => match v with | .int i _ => decide (rows.getD i.toNat 0 < (k : Int)) | _ => false) (fun v y => ∃ (i : Int) (ti u : Tok), v = .int i ti ∧ y = .int (line.getD i.toNat 0) u) rfl 0 (M + 1) ?clos ?cell ?kind ?names ?x S4 ?hi ?hz ?hsm ?ht ?he ?hQ
      case clos => rfl
      case cell => decide +kernel
      case kind => rfl
      case names => decide +kernel
      case x => decide +kernel
      case hz => rw [sizeLine_eq]; omega
      case hsm => exact small_one (by omega) (by omega) (by omega) (by omega)
      case hi =>
        k_steps
        exact ⟨_, _, _, _, _, _, rfl, rfl, by simpa [hrs] using (by assumption : IsRange _ _ _ _ _ _ _ _), by assumption, by assumption⟩
      case ht =>
        intro C j v s₃ m₃ E' hv hns hm S
        obtain ⟨hv1, t1, rfl⟩ := hv
        obtain ⟨F8, N8⟩ := S
        refine wpAny_tests_one ?_
        have hb : (0 : Int) ≤ 0 + (j : Int) ∧ 0 + (j : Int) < 1000000 ∧ (0 + (j : Int)).toNat < rows.length := by
          have : rows.length = M + 1 := by rw [← hrows]; simp
          omega
        iterate 30 (try (first | (k_unfold; (try dsimp only)) | walk1 | (dsimp only; walk1)))
        · exact beq_true _
        · exact ⟨_, _, rfl, by assumption⟩
      case he =>
        intro C j v s₃ m₃ E' hv hp hns hm S
        obtain ⟨hv1, t1, rfl⟩ := hv
        obtain ⟨F8, N8⟩ := S
        have hb : (0 : Int) ≤ 0 + (j : Int) ∧ 0 + (j : Int) < 1000000 ∧ (0 + (j : Int)).toNat < line.length := by
          have : line.length = M + 1 := by rw [← hline]; simp
          omega
        iterate 30 (try (first | (k_unfold; (try dsimp only)) | walk1 | (dsimp only; walk1)))
        exact ⟨_, _, rfl, fun _ _ e => e⟩
      case hQ =>
        intro D5 h5 tk5 ys5 k5 vs5 F5 N5 hne5 hl5 hv5 hF5
        have hrow : ∀ j, j ≤ M → (rows.getD j 0 < (k : Int) ↔ j ≤ i) := fun j hj => by
          rw [hre j hj]
          constructor
          · intro h9
            by_cases q : j ≤ i
            · exact q
            · by_cases q2 : j = i + 1
              · subst q2; omega
              · have := R9.mono (i := i + 1) (j := j) (by omega) hj; omega
          · intro h9
            by_cases q : j = i
            · subst q; omega
            · have := R9.mono (i := j) (j := i) (by omega) (by omega); omega
        obtain ⟨vi, hvi⟩ : ∃ v, vs5[i]? = some v := ⟨vs5[i]'(by omega), List.getElem?_eq_getElem (by omega)⟩
        obtain ⟨ti, rfl⟩ := hv5 i vi hvi
        have hlast := filter_last (p := fun v => match v with | .int i _ => decide (rows.getD i.toNat 0 < (k : Int)) | _ => false) hvi (by
            show decide (rows.getD (0 + (i : Int)).toNat 0 < (k : Int)) = true
            have e9 : (0 + (i : Int)).toNat = i := by omega
            rw [e9]
            exact decide_eq_true ((hrow i (by omega)).mpr (Nat.le_refl _))) (fun j v' hj hv' => by
            obtain ⟨tj, rfl⟩ := hv5 j v' hv'
            have hjl : j < vs5.length := (List.getElem?_eq_some_iff.mp hv').1
            show decide (rows.getD (0 + (j : Int)).toNat 0 < (k : Int)) = false
            have e9 : (0 + (j : Int)).toNat = j := by omega
            rw [e9]
            exact decide_eq_false fun h9 => by have := (hrow j (by omega)).mp h9; omega)
        obtain ⟨y5, hy5, i5, ti5, u5, e5, rfl⟩ := paired_last hF5 hlast
        have e6 : i5.toNat = i := by injection e5 with e5; omega
        rw [e6, hle i (by omega)] at hy5
        have hri := R9.pos i (by omega)
        have hli : lineI r i = (r i : Int) ∨ lineI r i = -(r i : Int) := by unfold lineI; split <;> simp
        have hlp : lineI r i > 0 → lineI r i = (r i : Int) := by omega
        have hlm : ¬ lineI r i > 0 → lineI r i = -(r i : Int) := by omega
        have hcut : f (k - r i) = f n := by rw [← L9.cut i k hi hlo hhi]; exact hpf
        have n1 : @Ne Nat (L' + 1 + 1 + 1) D5 := hne5 _ (.head _)
        have n2 : @Ne Nat (L' + 1 + 1) D5 := hne5 _ (.tail _ (.head _))
        have n3 : @Ne Nat (L' + 1) D5 := hne5 _ (.tail _ (.tail _ (.head _)))
        have n4 : @Ne Nat rR D5 := hne5 _ (.tail _ (.tail _ (.tail _ (.head _))))
        have n5 : @Ne Nat rL D5 := hne5 _ (.tail _ (.tail _ (.tail _ (.tail _ (.head _)))))
        k_steps
        all_goals (refine TurnW.next (k - r i) ((L' + 1 + 1 + 1, o1) :: (L' + 1 + 1, o2) :: (L' + 1, _) :: (rR, PySem.W.listOf rv kr) :: (rL, PySem.W.listOf lv kl) :: more) (by omega) (by assumption) (by assumption) (by kcf_all) ⟨k - r i, _, rfl, cell_val (by assumption) (by omega), by omega, by omega, hcut, rfl⟩)
end
section
open PySem PySem.W PySem.Calls PyProof.Rows PySem.Spec
set_option maxHeartbeats 2000000
noncomputable def UEnd (h₀ : Heap) (L : Addr) (m : Str → Option Value) (s₁ : Shared) (I : Addr) (oI : Obj) (C : Addr) (oC : Obj) (D : Addr) (oD : Obj) (S : List (Addr × Obj) → Prop) (rest : Value → List (Addr × Obj) → Prop) (y : Value) (s₂ : Shared) : Prop :=
  LCg.CompEnd h₀ L m s₁ I oI C oC D oD S rest y s₂
theorem UEnd.intro {h₀ : Heap} {L I C D : Addr} {m : Str → Option Value} {s₁ : Shared} {oI oC oD : Obj} {S : List (Addr × Obj) → Prop} {rest : Value → List (Addr × Obj) → Prop} {y : Value} {h' : Heap} {tk : Nat} {all : List (Addr × Obj)}
    (news' : List (Addr × Obj)) (F : Fr h₀ L h' m) (N : News h₀ L h' all) (sub : ∀ p ∈ (I, oI) :: (C, oC) :: (D, oD) :: news', p ∈ all) (off : ∀ p ∈ news', (@Ne Nat p.1 I) ∧ (@Ne Nat p.1 C) ∧ (@Ne Nat p.1 D)) (hS : S news') (r : rest y news') :
    UEnd h₀ L m s₁ I oI C oC D oD S rest y { s₁ with heap := h', toks := tk } := LCg.CompEnd.intro F N news' sub (LCg.Off3.of off) hS r
section
variable {w : World} {A : Around} {E : Value → Shared → Prop} {s : Shared} {h₀ : Heap} {L : Addr} {m : Str → Option Value} {env : Env}
theorem rest_U {elt : Expr} {x : Str} {scope : Scope} {cl : List (Str × Addr)} {S : List (Addr × Obj) → Prop} {P : Nat → Value → Prop} {Fin : List Value → List (Addr × Obj) → Prop} {n : Nat} {news : List (Addr × Obj)} (J : Nat → List Value → List (Addr × Obj) → Prop) (hJ : J 0 [] news)
    (turn : ∀ i v I oI C oC D m₂ ys nx h tk (E' : Value → Shared → Prop), i < n → P i v → J i ys nx → ys.length = i → LCg.NsObj oC m₂ → m₂ x = some v → Fr h₀ L h m → News h₀ L h ((I, oI) :: (C, oC) :: (D, LCg.lst ys) :: nx) → (∀ p ∈ nx, (@Ne Nat p.1 I) ∧ (@Ne Nat p.1 C) ∧ (@Ne Nat p.1 D)) → ((@Ne Nat I C) ∧ (@Ne Nat I D) ∧ (@Ne Nat C D)) →
      wpAny (model pw w) A (eval elt (compEnvC scope cl C env)) (UEnd h₀ L m { s with heap := h, toks := tk } I oI C oC D (LCg.lst ys) S (fun y nx' => J (i + 1) (ys ++ [y]) nx')) E' { s with heap := h, toks := tk })
    (fin : ∀ ys nx, J n ys nx → ys.length = n → Fin ys nx) : LCg.CompRest pw w A h₀ L m env elt x scope cl s S P Fin n 0 [] news := by
  have key : ∀ (j i : Nat) (ys : List Value) nx, i + j = n → ys.length = i → J i ys nx → LCg.CompRest pw w A h₀ L m env elt x scope cl s S P Fin j i ys nx := by
    intro j
    induction j with
    | zero =>
      intro i ys nx hi hl hy
      obtain rfl : i = n := by omega
      exact LCg.CompRest.zero (fin ys nx hy hl)
    | succ j ih =>
      intro i ys nx hi hl hy
      refine LCg.CompRest.succ ?_
      intro v I oI C oC D m₂ h tk E' hv hC hx F N off ne
      refine wpAny_mono (turn i v I oI C oC D m₂ ys nx h tk E' (by omega) hv hy hl hC hx F N off.mem ne) (fun y s₂ hq => ?_) fun _ _ e => e
      obtain ⟨h', tk', nw, e, F', N', off', hS, hr⟩ := hq
      exact ⟨h', tk', nw, e, F', N', off', hS, ih (i + 1) _ nw (by omega) (by simp [hl]) hr⟩
  exact key n 0 [] news (by omega) rfl hJ
theorem comp_rangeU {elt iter : Expr} {x : Str} {px : Pos} {scope : Scope} {cl : List (Str × Addr)} {pos : Pos} {Q : Value → Shared → Prop} {a : Int} {n : Nat} {news : List (Addr × Obj)} (J : Nat → List Value → List (Addr × Obj) → Prop) (hh : A.handled = none) (F₀ : Fr h₀ L s.heap m) (_ : News h₀ L s.heap news)
    (hclos : closureFor scope env = pure cl) (hcell : ∀ y ∈ scope.names, y.2 ≠ .cell) (hkind : scope.kind = .function)
    (hnames : ∀ y ∈ scope.names, y.2 = .local → scope.names.lookup y.1 = some .local) (hx : scope.names.lookup x = some .local)
    (hi : wpAny (model pw w) A (eval iter env) (RangePost h₀ L m news a n s) E s) (hz : n ≤ sizeLine) (hsm : Builtin.Range.small a (a + n) 1 = true) (hJ : J 0 [] news)
    (turn : ∀ i t I oI C oC D m₂ ys nx h tk (E' : Value → Shared → Prop), i < n → J i ys nx → LCg.NsObj oC m₂ → m₂ x = some (.int (a + (i : Int)) t) → Fr h₀ L h m → News h₀ L h ((I, oI) :: (C, oC) :: (D, LCg.lst ys) :: nx) → (∀ p ∈ nx, (@Ne Nat p.1 I) ∧ (@Ne Nat p.1 C) ∧ (@Ne Nat p.1 D)) → ((@Ne Nat I C) ∧ (@Ne Nat I D) ∧ (@Ne Nat C D)) →
      wpAny (model pw w) A (eval elt (compEnvC scope cl C env)) (UEnd h₀ L m { s with heap := h, toks := tk } I oI C oC D (LCg.lst ys) (fun _ => True) (fun y nx' => J (i + 1) (ys ++ [y]) nx')) E' { s with heap := h, toks := tk })
    (done : ∀ D h tk ys nx, J n ys nx → ys.length = n → Fr h₀ L h m → News h₀ L h ((D, LCg.lst ys) :: nx) → (∀ p ∈ nx, @Ne Nat p.1 D) → Q (.ref D) { s with heap := h, toks := tk })
    (hs : ∀ x, foldedSetIterable iter env x = pure x := by intro _; rfl) :
    wpAny (model pw w) A (eval (.ListComp elt [⟨.Name x px, iter, [], 0⟩] scope pos) env) Q E s := by
  have off1 : ∀ {D : Addr} {l : List (Addr × Obj)}, LCg.Off1 D l → ∀ p ∈ l, @Ne Nat p.1 D := by
    intro D l
    induction l with
    | nil => intro _ p hp; cases hp
    | cons q r ih =>
      intro h p hp
      rcases List.mem_cons.mp hp with rfl | hp
      · exact h.1
      · exact ih h.2 p hp
  refine LCg.ListComp_U F₀ hclos hcell hkind hnames hx (wpAny_mono hi (fun v s₁ h₁ => ?_) fun _ _ e => e) hs
  obtain ⟨r, h₁, tk₁, t, u, c, rfl, rfl, hr, F, N⟩ := h₁
  refine LCg.CompSrc.range hh F N hr hsm (by rw [rangeSize_nat]; congr 1; omega) hz fun g => ?_
  refine rest_U J hJ ?_ ?_
  · rintro i v I oI C oC D m₂ ys nx h tk E' hlt ⟨t, rfl⟩ hJ₁ hl hC hx F₁ N₁ off ne
    exact turn i t I oI C oC D m₂ ys nx h tk E' hlt hJ₁ hC hx F₁ N₁ off ne
  · intro ys nx hJ₁ hl D h tk F₁ N₁ off
    exact done D h tk ys nx hJ₁ hl F₁ N₁ (off1 off)
theorem comp_listU {elt iter : Expr} {x : Str} {px : Pos} {scope : Scope} {cl : List (Str × Addr)} {pos : Pos} {Q : Value → Shared → Prop} {ax : Addr} {its : Array Value} {kx : Nat} {news : List (Addr × Obj)} (J : Nat → List Value → List (Addr × Obj) → Prop) (hh : A.handled = none) (F₀ : Fr h₀ L s.heap m) (N₀ : News h₀ L s.heap news) (hm : (ax, PySem.W.listOf its kx) ∈ news)
    (hclos : closureFor scope env = pure cl) (hcell : ∀ y ∈ scope.names, y.2 ≠ .cell) (hkind : scope.kind = .function)
    (hnames : ∀ y ∈ scope.names, y.2 = .local → scope.names.lookup y.1 = some .local) (hx : scope.names.lookup x = some .local)
    (hi : ∀ Q' : Value → Shared → Prop, Q' (.ref ax) s → wpAny (model pw w) A (eval iter env) Q' E s) (hz : its.size ≤ sizeLine) (hJ : J 0 [] news)
    (turn : ∀ i v I oI C oC D m₂ ys nx h tk (E' : Value → Shared → Prop), its[i]? = some v → J i ys nx → LCg.NsObj oC m₂ → m₂ x = some v → Fr h₀ L h m → News h₀ L h ((I, oI) :: (C, oC) :: (D, LCg.lst ys) :: nx) → (∀ p ∈ nx, (@Ne Nat p.1 I) ∧ (@Ne Nat p.1 C) ∧ (@Ne Nat p.1 D)) → ((@Ne Nat I C) ∧ (@Ne Nat I D) ∧ (@Ne Nat C D)) →
      wpAny (model pw w) A (eval elt (compEnvC scope cl C env)) (UEnd h₀ L m { s with heap := h, toks := tk } I oI C oC D (LCg.lst ys) (LCg.SrcAt h₀ ax its) (fun y nx' => J (i + 1) (ys ++ [y]) nx')) E' { s with heap := h, toks := tk })
    (done : ∀ D h tk ys nx, J its.size ys nx → ys.length = its.size → Fr h₀ L h m → News h₀ L h ((D, LCg.lst ys) :: nx) → (∀ p ∈ nx, @Ne Nat p.1 D) → Q (.ref D) { s with heap := h, toks := tk })
    (hs : ∀ x, foldedSetIterable iter env x = pure x := by intro _; rfl) :
    wpAny (model pw w) A (eval (.ListComp elt [⟨.Name x px, iter, [], 0⟩] scope pos) env) Q E s := by
  have off1 : ∀ {D : Addr} {l : List (Addr × Obj)}, LCg.Off1 D l → ∀ p ∈ l, @Ne Nat p.1 D := by
    intro D l
    induction l with
    | nil => intro _ p hp; cases hp
    | cons q r ih =>
      intro h p hp
      rcases List.mem_cons.mp hp with rfl | hp
      · exact h.1
      · exact ih h.2 p hp
  refine LCg.ListComp_U F₀ hclos hcell hkind hnames hx (hi _ ?_) hs
  refine LCg.CompSrc.ledger (k := kx) hh F₀ N₀ hm hz fun g => ?_
  refine rest_U J hJ ?_ ?_
  · rintro i v I oI C oC D m₂ ys nx h tk E' hlt hP hJ₁ hl hC hx F₁ N₁ off ne
    exact turn i v I oI C oC D m₂ ys nx h tk E' hP hJ₁ hC hx F₁ N₁ off ne
  · intro ys nx hJ₁ hl D h tk F₁ N₁ off
    exact done D h tk ys nx hJ₁ hl F₁ N₁ (off1 off)
theorem asg_rangeU {elt iter : Expr} {x y : Str} {px py : Pos} {scope : Scope} {cl : List (Str × Addr)} {pos spos : Pos} {Q : Flow → Shared → Prop} {a : Int} {n : Nat} {news : List (Addr × Obj)} (J : Nat → List Value → List (Addr × Obj) → Prop) (hh : A.handled = none) (F₀ : Fr h₀ L s.heap m) (_ : News h₀ L s.heap news) (hLe : env.locals = L)
    (hsw : swapsWith (.ListComp elt [⟨.Name x px, iter, [], 0⟩] scope pos) (some (.Name y py)) spos.line env = pure true)
    (hclos : closureFor scope env = pure cl) (hcell : ∀ y ∈ scope.names, y.2 ≠ .cell) (hkind : scope.kind = .function)
    (hnames : ∀ y ∈ scope.names, y.2 = .local → scope.names.lookup y.1 = some .local) (hx : scope.names.lookup x = some .local)
    (hy : env.kindOf y = some .local) (hp : (env.scope.kind == .class || (env.scope.kind == .module && env.locals != env.globals)) = false)
    (hi : wpAny (model pw w) A (eval iter env) (RangePost h₀ L m news a n s) E s) (hz : n ≤ sizeLine) (hsm : Builtin.Range.small a (a + n) 1 = true) (hJ : J 0 [] news)
    (turn : ∀ i t I oI C oC D m₂ ys nx h tk (E' : Value → Shared → Prop), i < n → J i ys nx → LCg.NsObj oC m₂ → m₂ x = some (.int (a + (i : Int)) t) → Fr h₀ L h m → News h₀ L h ((I, oI) :: (C, oC) :: (D, LCg.lst ys) :: nx) → (∀ p ∈ nx, (@Ne Nat p.1 I) ∧ (@Ne Nat p.1 C) ∧ (@Ne Nat p.1 D)) → ((@Ne Nat I C) ∧ (@Ne Nat I D) ∧ (@Ne Nat C D)) →
      wpAny (model pw w) A (eval elt (compEnvC scope cl C env)) (UEnd h₀ L m { s with heap := h, toks := tk } I oI C oC D (LCg.lst ys) (fun _ => True) (fun y nx' => J (i + 1) (ys ++ [y]) nx')) E' { s with heap := h, toks := tk })
    (done : ∀ D h tk ys nx, J n ys nx → ys.length = n → Fr h₀ L h (fun z => if z = y then some (.ref D) else m z) → News h₀ L h ((D, LCg.lst ys) :: nx) → (∀ p ∈ nx, @Ne Nat p.1 D) → Q .next { s with heap := h, toks := tk })
    (hs : ∀ x, foldedSetIterable iter env x = pure x := by intro _; rfl) :
    wpAny (model pw w) A (exec (.Assign [.Name y py] (.ListComp elt [⟨.Name x px, iter, [], 0⟩] scope pos) spos) env) Q E s := by
  have off1 : ∀ {D : Addr} {l : List (Addr × Obj)}, LCg.Off1 D l → ∀ p ∈ l, @Ne Nat p.1 D := by
    intro D l
    induction l with
    | nil => intro _ p hp; cases hp
    | cons q r ih =>
      intro h p hp
      rcases List.mem_cons.mp hp with rfl | hp
      · exact h.1
      · exact ih h.2 p hp
  refine LCg.Assign_ListComp_U F₀ hLe hsw hclos hcell hkind hnames hx hy hp (wpAny_mono hi (fun v s₁ h₁ => ?_) fun _ _ e => e) hs
  obtain ⟨r, h₁, tk₁, t, u, c, rfl, rfl, hr, F, N⟩ := h₁
  refine LCg.CompSrc.range hh F N hr hsm (by rw [rangeSize_nat]; congr 1; omega) hz fun g => ?_
  refine rest_U J hJ ?_ ?_
  · rintro i v I oI C oC D m₂ ys nx h tk E' hlt ⟨t, rfl⟩ hJ₁ hl hC hx F₁ N₁ off ne
    exact turn i t I oI C oC D m₂ ys nx h tk E' hlt hJ₁ hC hx F₁ N₁ off ne
  · intro ys nx hJ₁ hl D h tk F₁ N₁ off
    exact done D h tk ys nx hJ₁ hl F₁ N₁ (off1 off)
theorem asg_range {elt iter : Expr} {x y : Str} {px py : Pos} {ifs : List Expr} {scope : Scope} {cl : List (Str × Addr)} {pos spos : Pos} {Q : Flow → Shared → Prop} {news : List (Addr × Obj)} (p : Value → Bool) (F : Value → Value → Prop) (hh : A.handled = none) (a : Int) (n : Nat) (hLe : env.locals = L)
    (hsw : swapsWith (.ListComp elt [⟨.Name x px, iter, ifs, 0⟩] scope pos) (some (.Name y py)) spos.line env = pure true)
    (hclos : closureFor scope env = pure cl) (hcell : ∀ y ∈ scope.names, y.2 ≠ .cell) (hkind : scope.kind = .function)
    (hnames : ∀ y ∈ scope.names, y.2 = .local → scope.names.lookup y.1 = some .local) (hx : scope.names.lookup x = some .local)
    (hy : env.kindOf y = some .local) (hp : (env.scope.kind == .class || (env.scope.kind == .module && env.locals != env.globals)) = false)
    (_ : Stand h₀ L m news s.heap) (hi : wpAny (model pw w) A (eval iter env) (RangePost h₀ L m news a n s) E s) (hz : n ≤ sizeLine) (hsm : Builtin.Range.small a (a + n) 1 = true)
    (ht : ∀ C (i : Nat) v s₃ m₃ E', (i < n ∧ ∃ t, v = .int (a + i) t) → s₃.heap.Ns C m₃ → m₃ x = some v → Stand h₀ L m news s₃.heap →
        wpAny (model pw w) A (forIn ifs true fun c r => if r = true then do let ok ← isTrue c (compEnvC scope cl C env) (eval c (compEnvC scope cl C env)); pure (ForInStep.yield ok) else pure (ForInStep.yield r))
          (fun ok s₄ => ok = p v ∧ Keeps s₃ s₄) E' s₃)
    (he : ∀ C (i : Nat) v s₃ m₃ E', (i < n ∧ ∃ t, v = .int (a + i) t) → p v = true → s₃.heap.Ns C m₃ → m₃ x = some v → Stand h₀ L m news s₃.heap →
        wpAny (model pw w) A (eval elt (compEnvC scope cl C env)) (fun y s₄ => F v y ∧ Keeps s₃ s₄) E' s₃)
    (hQ : ∀ D h' tk ys k (vs : List Value), Fr h₀ L h' (fun z => if z = y then some (.ref D) else m z) → News h₀ L h' ((D, PySem.W.listOf ys k) :: news) → (∀ q ∈ news, @Ne Nat q.1 D) → vs.length = n → (∀ (j : Nat) v, vs[j]? = some v → ∃ t, v = .int (a + j) t) → Paired F (vs.filter p) ys.toList → Q .next { s with heap := h', toks := tk })
    (hs : ∀ x, foldedSetIterable iter env x = pure x := by intro _; rfl) :
    wpAny (model pw w) A (exec (.Assign [.Name y py] (.ListComp elt [⟨.Name x px, iter, ifs, 0⟩] scope pos) spos) env) Q E s := by
  subst hLe
  refine wpAny_Assign_ListComp_free p F hsw hclos hcell hkind hnames hx hy hp (wpAny_mono hi (fun v s₁ h₁ => ?_) fun _ _ e => e) hs
  obtain ⟨r, h₁, tk₁, t, u, c, rfl, rfl, hr, S⟩ := h₁
  refine wpAny_pyIter_range hr hsm ?_
  have hsz : Builtin.Range.rangeSize a (a + n) 1 = (n : Int) := by
    unfold Builtin.Range.rangeSize
    by_cases hn : n = 0
    · subst hn; simp
    · simp; omega
  have W := Walks.range (prog := pw) (w := w) hh h₁.objs.size a 1 n
  have W' : Walks pw w A h₁.objs.size [h₁.objs.size] [h₁.objs.size] n (fun i v => i < n ∧ ∃ t, v = .int (a + i) t) (fun i h => IsRangeIter h h₁.objs.size (a + (i : Nat) * 1) ((n : Int) - (i : Nat)) 1) :=
    { sub := W.sub, frame := W.frame, done := W.done, self := W.self, item := fun i s Q E hi st hQ => W.item i s Q E hi st fun v h' tk hv a b => hQ v h' tk ⟨hi, by simpa using hv⟩ a b }
  have Ap := apart_new S
  have S₁ : Stand h₀ env.locals m news (h₁.push { cls := .type "range_iterator", data := .fields #[rawInt a, rawInt (Builtin.Range.rangeSize a (a + n) 1), rawInt 1] }) := S.push _
  refine ⟨_, [h₁.objs.size], [h₁.objs.size], n, _, _, m, rfl, W', hz, ?_, ?_, ?_, S₁.1.ns, ⟨?_, ?_⟩, ?_⟩
  · show IsRangeIter _ _ _ _ _
    unfold IsRangeIter
    rw [Heap.get?_push_size _ rfl, hsz]
    simp
  · intro b hb; rw [List.mem_singleton.mp hb]; show _ < (h₁.push _).objs.size; rw [Heap.size_push]; exact Nat.lt_succ_self _
  · intro hm; exact Ap.l (List.mem_singleton.mp hm).symm
  · intro C i v s₃ m₃ E' _ hP hns hm hk _
    exact ht C i v s₃ m₃ E' hP hns hm (S₁.but Ap hk)
  · intro C i v s₃ m₃ E' _ hP hp hns hm hk _
    exact he C i v s₃ m₃ E' hP hp hns hm (S₁.but Ap hk)
  · intro D h' tk ys vs hD _ hpl hlen hP hF hns hk
    obtain ⟨k, hk'⟩ := hpl
    have hL₀ : h₀.get? env.locals = none := Heap.get?_none_of_le S.1.above
    have hDL : D ≠ env.locals := by
      rintro rfl
      obtain ⟨o, _, _, e, _⟩ := S₁.1.ns
      rw [hD] at e; cases e
    have F' : Fr h₀ env.locals h' (fun z => if z = y then some (.ref D) else m z) := by
      refine ⟨hns, fun b o e => hk b o (fun q => by rw [q, hL₀] at e; cases e) (fun hb => ?_) (S₁.1.keep b o e), S.1.above⟩
      rw [List.mem_singleton.mp hb, Ap.g] at e
      cases e
    refine hQ D h' tk ys k vs F' (fun q hq => ?_) (fun q hq e => ?_) hlen (fun j v hj => (hP j v hj).2) hF
    · rcases List.mem_cons.mp hq with rfl | hq
      · refine ⟨hk', hDL, ?_⟩
        cases e : h₀.get? D with
        | none => rfl
        | some o => have := S₁.1.keep _ _ e; rw [hD] at this; cases this
      · refine ⟨hk _ _ (S₁.2 q hq).2.1 (by simpa using Ap.n q hq) (S₁.2 q hq).1, (S₁.2 q hq).2⟩
    · have h9 := (S₁.2 q hq).1
      have e9 : q.1 = D := e
      rw [e9, hD] at h9; cases h9
end
end
section
open PySem PySem.W PySem.Calls PyProof.Rows PySem.Spec
set_option maxHeartbeats 2000000
local macro_rules | `(tactic| kpc_none) => `(tactic| grind)
noncomputable def cat : List Str → Str
  | [] => ⟨#[]⟩
  | x :: r => ⟨x.cps ++ (cat r).cps⟩
theorem join_cat : ∀ (l : List Str), Str.join (Str.ofString "") l = cat l
  | [] => rfl
  | [x] => by
    show x = ⟨x.cps ++ #[]⟩
    simp
  | x :: y :: r => by
    rw [join_cons_cons, join_cat (y :: r)]
    show (⟨x.cps ++ (Str.ofString "").cps ++ (cat (y :: r)).cps⟩ : Str) = ⟨x.cps ++ (cat (y :: r)).cps⟩
    have : (Str.ofString "").cps = #[] := by kernel_rfl
    rw [this]
    simp
theorem tjoin_cat (l : List Str) : Txt.join (Str.ofString "") l = cat l := by
  exact (StrLaws.glued_eq_join _ _).trans (join_cat l)
theorem cat_len : ∀ (l : List Str), (cat l).length = (l.map (·.length)).sum
  | [] => rfl
  | x :: r => by
    show (x.cps ++ (cat r).cps).size = _
    rw [Array.size_append, List.map_cons, List.sum_cons, ← cat_len r]
    rfl
theorem cat_app : ∀ (l l' : List Str), cat (l ++ l') = cat l ++ cat l'
  | [], l' => by
    show cat l' = ⟨#[] ++ (cat l').cps⟩
    simp
  | x :: r, l' => by
    show (⟨x.cps ++ (cat (r ++ l')).cps⟩ : Str) = ⟨(x.cps ++ (cat r).cps) ++ (cat l').cps⟩
    rw [cat_app r l']
    show (⟨x.cps ++ ((cat r).cps ++ (cat l').cps)⟩ : Str) = _
    simp
theorem ofs_len0 : (Str.ofString "").length = 0 := by kernel_rfl
theorem app_len (x y : Str) : (x ++ y).length = x.length + y.length := by
  show (x.cps ++ y.cps).size = _
  rw [Array.size_append]; rfl
theorem pM_short (n : Int) : ∀ x ∈ pM n, x.length ≤ 3 := by
  intro x hx
  unfold pM at hx
  dsimp only at hx
  repeat' split at hx
  all_goals (simp only [List.mem_cons, List.not_mem_nil, or_false] at hx)
  all_goals (try rcases hx with hx | hx | hx)
  all_goals (try rcases hx with hx | hx)
  all_goals (try subst hx)
  all_goals (first | exact Nat.le_of_eq_of_le rfl (by decide) | (rw [app_len]; exact Nat.le_of_ble_eq_true rfl) | exact Nat.le_of_ble_eq_true rfl | (rw [ofs_len0]; omega))
theorem pS_one (n : Int) : ∀ x ∈ pS n, x.length = 1 := by
  intro x hx
  unfold pS at hx
  dsimp only at hx
  repeat' split at hx
  all_goals (simp only [List.mem_cons, List.not_mem_nil, or_false] at hx)
  all_goals (try rcases hx with hx | hx | hx)
  all_goals (try rcases hx with hx | hx)
  all_goals (try subst hx)
  all_goals (first | rfl | kernel_rfl)
theorem textM_short (ps : List Int) : ∀ x ∈ textM ps, x.length ≤ 3 := by
  intro x hx
  obtain ⟨n, _, h⟩ := List.mem_flatMap.mp (List.mem_of_mem_take hx)
  exact pM_short n x h
theorem textS_one (ps : List Int) : ∀ x ∈ textS ps, x.length = 1 := by
  intro x hx
  obtain ⟨n, _, h⟩ := List.mem_flatMap.mp (List.mem_of_mem_take hx)
  exact pS_one n x h
theorem sum_short {l : List Str} {b : Nat} (h : ∀ x ∈ l, x.length ≤ b) : (l.map (·.length)).sum ≤ b * l.length := by
  induction l with
  | nil => simp
  | cons a r ih =>
    have := h a (.head _)
    have := ih fun x hx => h x (.tail _ hx)
    simp only [List.map_cons, List.sum_cons, List.length_cons]
    rw [Nat.mul_add]; omega
theorem textS_len {ps : List Int} (h : ps.length = 10) : 10 ≤ (textS ps).length ∧ (textS ps).length ≤ 16 ∧ (textM ps).length = (textS ps).length := by
  have := flat_len ps
  unfold textS textM
  simp only [List.length_take]
  omega
theorem pickN (l : List Value) (i : Nat) : kms_pick l none (some (0 + (i : Int))) = l.take i := by
  unfold kms_pick kms_lo kms_hi
  dsimp only
  rw [if_neg (by omega), List.drop_zero]
  have : (0 + (i : Int)).toNat = i := by omega
  rw [this, List.take_eq_take_iff]
  simp
end
section
open PySem PySem.W PySem.Calls PyProof.Rows PySem.Spec
set_option maxHeartbeats 2000000
noncomputable def Off4 (I C c D : Addr) (nx : List (Addr × Obj)) : Prop := ∀ p ∈ nx, (@Ne Nat p.1 I) ∧ (@Ne Nat p.1 C) ∧ (@Ne Nat p.1 c) ∧ (@Ne Nat p.1 D)
noncomputable def CEnd (h₀ : Heap) (L : Addr) (m : Str → Option Value) (s₁ : Shared) (I : Addr) (oI : Obj) (C : Addr) (oC : Obj) (c : Addr) (oc : Obj) (D : Addr) (oD : Obj) (rest : Bool → List (Addr × Obj) → Prop) (b : Bool) (s₂ : Shared) : Prop :=
  ∃ h' tk nx' all, s₂ = { s₁ with heap := h', toks := tk } ∧ Fr h₀ L h' m ∧ News h₀ L h' all ∧ (∀ p ∈ (I, oI) :: (C, oC) :: (c, oc) :: (D, oD) :: nx', p ∈ all) ∧ Off4 I C c D nx' ∧ rest b nx'
theorem CEnd.intro {h₀ : Heap} {L : Addr} {m : Str → Option Value} {s₁ : Shared} {I C c D : Addr} {oI oC oc oD : Obj} {rest : Bool → List (Addr × Obj) → Prop} {b : Bool} {h' : Heap} {tk : Nat} {all : List (Addr × Obj)} (nx' : List (Addr × Obj)) (F : Fr h₀ L h' m) (N : News h₀ L h' all)
    (sub : ∀ p ∈ (I, oI) :: (C, oC) :: (c, oc) :: (D, oD) :: nx', p ∈ all) (off : Off4 I C c D nx') (r : rest b nx') : CEnd h₀ L m s₁ I oI C oC c oc D oD rest b { s₁ with heap := h', toks := tk } := ⟨h', tk, nx', all, rfl, F, N, sub, off, r⟩
section
variable {w : World} {A : Around} {E : Value → Shared → Prop} {s : Shared} {h₀ : Heap} {L : Addr} {m : Str → Option Value} {env : Env}
theorem nfe_cell {M : Model} {scope : Scope} {cl : List (Str × Addr)} {qual x : Str} {gl : Addr} {Q : Env → Shared → Prop} (hcf : ∀ c, cellsFrom c scope.names cl = (x, c) :: cl) (hpc : ∀ h, pushCells h scope.names = h.push { cls := .type "cell", data := .cell none })
    (h : Q { scope := scope, locals := s.heap.objs.size, globals := gl, cells := (x, s.heap.objs.size + 1) :: cl, qual := qual, func := none, code := env.code, frame := env.frame, builtins := env.builtins } { s with heap := (s.heap.push { cls := .type "dict", data := .dict #[] }).push { cls := .type "cell", data := .cell none } }) :
    wpAny M A (newFunctionEnv scope gl cl [] qual none .none (some env)) Q E s := by
  simp only [newFunctionEnv, Option.isSome_some, if_true]
  refine wpAny_bind (wpAny_alloc ?_)
  refine wpAny_bind (wpAny_layCells _ (fun name kind cells => by cases hkc : kind == NameKind.cell <;> simp [hkc]) _ _ _ _ ?_)
  rw [hcf, hpc]
  rw [List.forIn_nil]
  refine wpAny_bind (wpAny_pure (wpAny_pure ?_))
  rw [show ({ s with heap := s.heap.push { cls := .type "dict", data := .dict #[] } } : Shared).heap.objs.size = s.heap.objs.size + 1 from Heap.size_push ..]
  exact h
inductive CInv (s : Shared) (n : Nat) (I : Addr) (a : Int) (h₀ : Heap) (L : Addr) (m : Str → Option Value) (J : Nat → List Value → List (Addr × Obj) → Prop) (k : Nat) (s' : Shared) : Prop
  | mk (i : Nat) (h' : Heap) (tk : Nat) (oC oc : Obj) (m₂ : Str → Option Value) (v₀ : Option Value) (ys : List Value) (nx : List (Addr × Obj)) (q0 : s' = { s with heap := h', toks := tk }) (q1 : i ≤ n) (q2 : k = n + 1 - i) (q3 : ys.length ≤ i) (q4 : IsRangeIter h' I (a + (i : Nat) * 1) ((n : Int) - (i : Nat)) 1) (q5 : Fr h₀ L h' m) (q6 : News h₀ L h' ((I + 2, oC) :: (I + 2 + 1, oc) :: (I + 1, LCg.lst ys) :: nx)) (q7 : LCg.NsObj oC m₂) (q8 : oc.data = .cell v₀) (q9 : Off4 I (I + 2) (I + 2 + 1) (I + 1) nx) (q10 : J i ys nx) : CInv s n I a h₀ L m J k s'
theorem comp_cellR {iter test : Expr} {x : Str} {px px2 : Pos} {scope : Scope} {cl : List (Str × Addr)} {pos : Pos} {Q : Value → Shared → Prop} {a : Int} {n : Nat} {news : List (Addr × Obj)} (J : Nat → List Value → List (Addr × Obj) → Prop) (hh : A.handled = none) (F₀ : Fr h₀ L s.heap m) (_ : News h₀ L s.heap news)
    (hclos : closureFor scope env = pure cl) (hcf : ∀ c, cellsFrom c scope.names cl = (x, c) :: cl) (hpc : ∀ h, pushCells h scope.names = h.push { cls := .type "cell", data := .cell none }) (hkind : scope.kind = .function)
    (hnames : ∀ y ∈ scope.names, y.2 = .local → scope.names.lookup y.1 = some .local) (hx : (relabel scope env).names.lookup x = some .cell) (hb : (x == ("__debug__" : Str)) = false)
    (hi : wpAny (model pw w) A (eval iter env) (RangePost h₀ L m news a n s) E s) (hz : n ≤ sizeLine) (hsm : Builtin.Range.small a (a + n) 1 = true) (hJ : J 0 [] news)
    (turn : ∀ i t I oI C oC c oc D ys nx h tk (E' : Value → Shared → Prop), i < n → J i ys nx → oc.data = .cell (some (.int (a + (i : Int)) t)) → Fr h₀ L h m → News h₀ L h ((I, oI) :: (C, oC) :: (c, oc) :: (D, LCg.lst ys) :: nx) → Off4 I C c D nx → ((@Ne Nat I C) ∧ (@Ne Nat I c) ∧ (@Ne Nat I D) ∧ (@Ne Nat C c) ∧ (@Ne Nat C D) ∧ (@Ne Nat c D)) →
      wpAny (model pw w) A (isTrue test (compEnvC scope ((x, c) :: cl) C env) (eval test (compEnvC scope ((x, c) :: cl) C env))) (CEnd h₀ L m { s with heap := h, toks := tk } I oI C oC c oc D (LCg.lst ys) (fun b nx' => J (i + 1) (if b then ys ++ [.int (a + (i : Int)) t] else ys) nx')) E' { s with heap := h, toks := tk })
    (done : ∀ D h tk ys nx, J n ys nx → Fr h₀ L h m → News h₀ L h ((D, LCg.lst ys) :: nx) → (∀ p ∈ nx, @Ne Nat p.1 D) → Q (.ref D) { s with heap := h, toks := tk })
    (hs : ∀ x, foldedSetIterable iter env x = pure x := by intro _; rfl) :
    wpAny (model pw w) A (eval (.ListComp (.Name x px2) [⟨.Name x px, iter, [test], 0⟩] scope pos) env) Q E s := by
  rw [eval_ListComp]
  refine wpAny_comprehension_free (use := none) rfl hs hclos hkind hnames (wpAny_mono hi (fun v s₁ h₁ => ?_) fun _ _ e => e)
  obtain ⟨r, h₁, tk₁, t, u, c, rfl, rfl, hr, F, N⟩ := h₁
  refine wpAny_pyIter_range hr hsm ?_
  have hsz : Builtin.Range.rangeSize a (a + n) 1 = (n : Int) := by
    unfold Builtin.Range.rangeSize
    by_cases hn : n = 0
    · subst hn; simp
    · simp; omega
  refine wpAny_newObj_type (nfe_cell (x := x) hcf hpc ?_)
  generalize hH : ((h₁.push { cls := .type "range_iterator", data := .fields #[rawInt a, rawInt (Builtin.Range.rangeSize a (a + n) 1), rawInt 1] }).push { cls := .type "list", dict := none, data := .seq ([] : List Value).toArray }).push { cls := .type "dict", data := .dict #[] } = H3
  have hI : h₁.objs.size < h₁.objs.size + 1 := Nat.lt_succ_self _
  have z1 : (h₁.push { cls := .type "range_iterator", data := .fields #[rawInt a, rawInt (Builtin.Range.rangeSize a (a + n) 1), rawInt 1] }).objs.size = h₁.objs.size + 1 := Heap.size_push ..
  have z2 : ((h₁.push { cls := .type "range_iterator", data := .fields #[rawInt a, rawInt (Builtin.Range.rangeSize a (a + n) 1), rawInt 1] }).push { cls := .type "list", dict := none, data := .seq ([] : List Value).toArray }).objs.size = h₁.objs.size + 2 := by rw [Heap.size_push, z1]
  have z3 : H3.objs.size = h₁.objs.size + 3 := by rw [← hH, Heap.size_push, z2]
  dsimp only
  rw [z1, z2]
  generalize hI9 : h₁.objs.size = I at *
  have H4 := H3.push { cls := .type "cell", data := .cell none }
  have eI : (H3.push { cls := .type "cell", data := .cell none }).get? I = some { cls := .type "range_iterator", data := .fields #[rawInt a, rawInt (Builtin.Range.rangeSize a (a + n) 1), rawInt 1] } := by
    refine Heap.get?_push_of_some _ ?_
    rw [← hH]
    exact Heap.get?_push_of_some _ (Heap.get?_push_of_some _ (by rw [← hI9]; exact Heap.get?_push_size _ rfl))
  have eD : (H3.push { cls := .type "cell", data := .cell none }).get? (I + 1) = some (LCg.lst []) := by
    refine Heap.get?_push_of_some _ ?_
    rw [← hH]
    refine Heap.get?_push_of_some _ ?_
    rw [← z1]; exact Heap.get?_push_size _ rfl
  have eC : (H3.push { cls := .type "cell", data := .cell none }).get? (I + 2) = some { cls := .type "dict", data := .dict #[] } := by
    refine Heap.get?_push_of_some _ ?_
    rw [← hH, ← z2]; exact Heap.get?_push_size _ rfl
  have ec : (H3.push { cls := .type "cell", data := .cell none }).get? (I + 2 + 1) = some { cls := .type "cell", data := .cell none } := by
    have : I + 2 + 1 = H3.objs.size := by rw [z3]
    rw [this]; exact Heap.get?_push_size _ rfl
  have old : ∀ b o, h₁.get? b = some o → (H3.push { cls := .type "cell", data := .cell none }).get? b = some o := fun b o e => by
    refine Heap.get?_push_of_some _ ?_
    rw [← hH]
    exact Heap.get?_push_of_some _ (Heap.get?_push_of_some _ (Heap.get?_push_of_some _ e))
  have hLI : @LT.lt Nat _ L I := by rw [← hI9]; exact F.ns.lt
  have hnl : ∀ p ∈ news, @LT.lt Nat _ p.1 I := fun p hp => by rw [← hI9]; exact Heap.lt_size (N p hp).1
  have f₀ : ∀ b, @LE.le Nat _ I b → h₀.get? b = none := fun b hb => Heap.get?_none_of_le (Nat.le_trans F.above (Nat.le_trans (Nat.le_of_lt hLI) hb))
  have c23 : @Ne Nat (I + 2) (I + 2 + 1) := by omega
  have c13 : @Ne Nat (I + 1) (I + 2 + 1) := by omega
  have c21 : @Ne Nat (I + 2) (I + 1) := by omega
  have c31 : @Ne Nat (I + 2 + 1) (I + 1) := by omega
  have nI1 : @Ne Nat (I + 1) I := by omega
  have nI2 : @Ne Nat (I + 2) I := by omega
  have nI3 : @Ne Nat (I + 2 + 1) I := by omega
  have lI0 : @Ne Nat I L := by omega
  have lI1 : @Ne Nat (I + 1) L := by omega
  have lI2 : @Ne Nat (I + 2) L := by omega
  have lI3 : @Ne Nat (I + 2 + 1) L := by omega
  have gI1 : h₀.get? (I + 1) = none := f₀ _ (by omega)
  have gI2 : h₀.get? (I + 2) = none := f₀ _ (by omega)
  have gI3 : h₀.get? (I + 2 + 1) = none := f₀ _ (by omega)
  have F4 : Fr h₀ L (H3.push { cls := .type "cell", data := .cell none }) m := F.keeps old
  have N4 : News h₀ L (H3.push { cls := .type "cell", data := .cell none }) ((I + 2, { cls := .type "dict", data := .dict #[] }) :: (I + 2 + 1, { cls := .type "cell", data := .cell none }) :: (I + 1, LCg.lst []) :: news) :=
    newsc eC lI2 gI2 (newsc ec lI3 gI3 (newsc eD lI1 gI1 fun p hp => ⟨old _ _ (N p hp).1, (N p hp).2⟩))
  have hCns : LCg.NsObj { cls := .type "dict", data := .dict #[] } (fun _ => none) := by
    obtain ⟨o, e1, e2⟩ := LCg.ns_obj (Heap.Ns.new h₁ (.type "dict"))
    rw [Heap.get?_push_size _ rfl] at e1
    cases e1
    exact e2
  have W := LCg.range_walks (prog := pw) (w := w) (I := I) hh a n
  have loop : codeAny (model pw w) A (.compLoop (.ListComp (.Name x px2) [⟨.Name x px, iter, [test], 0⟩] scope pos) 0 (.ref I) (.ref (I + 1)) (compEnvC scope ((x, I + 2 + 1) :: cl) (I + 2) env))
      (compPost (model pw w) A E none Q (.ref (I + 1)) (I + 2)) { s with heap := H3.push { cls := .type "cell", data := .cell none }, toks := tk₁ } := by
    refine codeAny_compLoop_tests (fun k s' => CInv s n I a h₀ L m J k s') ?_ (n + 1)
      ⟨0, _, _, _, _, _, none, [], news, rfl, Nat.zero_le _, rfl, Nat.le_refl _, ?_, F4, N4, hCns, rfl, ?_, hJ⟩
    · rintro k s' ⟨i, h', tk, oC, oc, m₂, v₀, ys, nx, rfl, hin, rfl, hyl, hst, F', N', hC', hoc, off, hJ'⟩
      by_cases hlt : i < n
      · refine W.item i _ _ _ hlt hst fun v h₂ tk₂ hPv hst₂ hk₂ => ?_
        obtain ⟨ti, rfl⟩ := hPv
        have F₂ : Fr h₀ L h₂ m := LCg.fr_but F' hk₂ (by intro e; have e' : @Eq Nat L I := e; omega) (f₀ _ (Nat.le_refl _))
        have N₂ := LCg.news_but N' hk₂ (nec nI2 (nec nI3 (nec nI1 fun p hp => (off p hp).1)))
        have zc := (N₂ (I + 2 + 1, oc) (.tail _ (.head _))).1
        refine wpAny_assign_Name (wpAny_storeName_cell (c := I + 2 + 1) (v₀ := v₀) hkind hx (by simp [compEnvC, List.lookup]) ⟨oc, zc, hoc⟩ fun h₃ hc₃ hs₃ => ?_)
        obtain ⟨oc₃, ec₃, hoc₃⟩ := hc₃
        have F₃ : Fr h₀ L h₃ m := F₂.change hs₃ (by intro e; have e' : I + 2 + 1 = L := e; omega) (f₀ _ (by omega))
        have hst₃ : IsRangeIter h₃ I (a + ((i + 1 : Nat) : Int) * 1) ((n : Int) - ((i + 1 : Nat) : Int)) 1 := by
          have st' : h₂.get? I = some _ := hst₂
          show h₃.get? I = some _
          exact hs₃.extBut I _ (by show @Ne Nat _ _; omega) st'
        have N₃ : News h₀ L h₃ ((I, { cls := .type "range_iterator", data := .fields #[rawInt (a + ((i + 1 : Nat) : Int) * 1), rawInt ((n : Int) - ((i + 1 : Nat) : Int)), rawInt 1] }) :: (I + 2, oC) :: (I + 2 + 1, oc₃) :: (I + 1, LCg.lst ys) :: nx) :=
          newsc hst₃ lI0 (f₀ _ (Nat.le_refl _)) (newsc (hs₃.extBut _ _ c23 (N₂ (I + 2, oC) (.head _)).1) lI2 gI2 (newsc ec₃ lI3 gI3 (newsc (hs₃.extBut _ _ c13 (N₂ (I + 1, LCg.lst ys) (.tail _ (.tail _ (.head _)))).1) lI1 gI1 fun p hp => ⟨hs₃.extBut _ _ (off p hp).2.2.1 (N₂ p (.tail _ (.tail _ (.tail _ hp)))).1, (N₂ p (.tail _ (.tail _ (.tail _ hp)))).2⟩)))
        refine wpAny_tests_one ?_
        refine wpAny_mono (turn i ti I _ (I + 2) oC (I + 2 + 1) oc₃ (I + 1) ys nx h₃ tk₂ _ hlt hJ' hoc₃ F₃ N₃ off ⟨by omega, by omega, by omega, by omega, by omega, by omega⟩) (fun b s₄ h₄ => ?_) fun _ _ e => e
        obtain ⟨h₅, tk₅, nx', all, rfl, F₅, N₅, sub, off₅, hJ₅⟩ := h₄
        have M₅ : News h₀ L h₅ _ := news_sub N₅ sub
        have hst₅ : IsRangeIter h₅ I (a + ((i + 1 : Nat) : Int) * 1) ((n : Int) - ((i + 1 : Nat) : Int)) 1 := (M₅ (I, _) (.head _)).1
        cases b with
        | false =>
          refine ⟨n + 1 - (i + 1), by omega, i + 1, h₅, tk₅, oC, oc₃, m₂, _, ys, nx', rfl, hlt, rfl, by omega, hst₅, F₅, fun p hp => M₅ p (.tail _ hp), hC', hoc₃, off₅, ?_⟩
          simpa using hJ₅
        | true =>
          simp only [if_true]
          have zc₅ := (M₅ (I + 2 + 1, oc₃) (.tail _ (.tail _ (.head _)))).1
          refine wpAny_Name (wpAny_loadName_cell (c := I + 2 + 1) hkind hx (by simp [compEnvC, List.lookup]) ⟨oc₃, zc₅, hoc₃⟩ ?_) hb
          have zD := (M₅ (I + 1, LCg.lst ys) (.tail _ (.tail _ (.tail _ (.head _))))).1
          refine append_at (hsz := by show ys.toArray.size ≤ sizeLine; rw [List.size_toArray]; omega) zD fun h₆ hs₆ hD₆ => ?_
          refine ⟨n + 1 - (i + 1), by omega, i + 1, h₆, tk₅, oC, oc₃, m₂, _, ys ++ [.int (a + (i : Int)) ti], nx', rfl, hlt, rfl, by simp; omega, ?_, F₅.change hs₆ (by intro e; have e' : I + 1 = L := e; omega) (f₀ _ (by omega)), ?_, hC', hoc₃, off₅, ?_⟩
          · show h₆.get? I = some _
            exact hs₆.extBut I _ (by show @Ne Nat _ _; omega) hst₅
          · exact newsc (hs₆.extBut _ _ c21 (M₅ (I + 2, oC) (.tail _ (.head _))).1) lI2 gI2 (newsc (hs₆.extBut _ _ c31 (M₅ (I + 2 + 1, oc₃) (.tail _ (.tail _ (.head _)))).1) lI3 gI3 (newsc (hD₆.trans (congrArg some (LCg.lst_snoc ys _))) lI1 gI1 fun p hp => ⟨hs₆.extBut _ _ (off₅ p hp).2.2.2 (M₅ p (.tail _ (.tail _ (.tail _ (.tail _ hp))))).1, (M₅ p (.tail _ (.tail _ (.tail _ (.tail _ hp))))).2⟩))
          · simpa using hJ₅
      · obtain rfl : i = n := Nat.le_antisymm hin (Nat.not_lt.mp hlt)
        refine W.done _ _ _ hst fun h₂ tk₂ hk₂ => ?_
        have F₂ : Fr h₀ L h₂ m := LCg.fr_but F' hk₂ (by intro e; have e' : @Eq Nat L I := e; omega) (f₀ _ (Nat.le_refl _))
        have N₂ := LCg.news_but N' hk₂ (nec nI2 (nec nI3 (nec nI1 fun p hp => (off p hp).1)))
        refine ⟨m₂, hC'.ns (N₂ _ (.head _)).1, fun h'' hs'' => ?_⟩
        refine done (I + 1) h'' tk₂ ys nx hJ' (F₂.change hs'' (by intro e; have e' : I + 2 = L := e; omega) (f₀ _ (by omega))) (fun p hp => ?_) fun p hp => (off p hp).2.2.2
        rcases List.mem_cons.mp hp with rfl | hp
        · have z := N₂ (I + 1, LCg.lst ys) (.tail _ (.tail _ (.head _)))
          exact ⟨hs''.extBut _ _ (by show @Ne Nat _ _; omega) z.1, z.2⟩
        · have z := N₂ p (.tail _ (.tail _ (.tail _ hp)))
          exact ⟨hs''.extBut _ _ (off p hp).2.1 z.1, z.2⟩
    · show Heap.get? _ I = some _
      rw [eI, hsz]
      simp
    · intro p hp
      have := hnl p hp
      exact ⟨by omega, by omega, by omega, by omega⟩
  exact codeAny_compStart_list loop (W.self 0 _ _ _ (by show Heap.get? _ I = some _; rw [eI, hsz]; simp) loop)
end
section
variable {w : World} {A : Around} {E : Value → Shared → Prop} {s : Shared} {env : Env} {g : Heap} {L : Addr} {m : Str → Option Value} {news : List (Addr × Obj)}
theorem comp_listT {elt iter : Expr} {x : Str} {px : Pos} {ifs : List Expr} {scope : Scope} {cl : List (Str × Addr)} {pos : Pos} {Q : Value → Shared → Prop} (p : Value → Bool) (F : Value → Value → Prop) (hh : A.handled = none) (l : Addr) (items : Array Value) (kl : Nat)
    (hclos : closureFor scope env = pure cl) (hcell : ∀ y ∈ scope.names, y.2 ≠ .cell) (hkind : scope.kind = .function)
    (hnames : ∀ y ∈ scope.names, y.2 = .local → scope.names.lookup y.1 = some .local) (hx : scope.names.lookup x = some .local)
    (hi : ∀ Q' : Value → Shared → Prop, (∀ tk', Q' (.ref l) { s with toks := tk' }) → wpAny (model pw w) A (eval iter env) Q' E s) (hz : items.size ≤ sizeLine) (S : Stand g L m news s.heap) (hl : (l, PySem.W.listOf items kl) ∈ news)
    (ht : ∀ C (i : Nat) v s₃ m₃ E', items[i]? = some v → s₃.heap.Ns C m₃ → m₃ x = some v → Stand g L m news s₃.heap →
        wpAny (model pw w) A (forIn ifs true fun c r => if r = true then do let ok ← isTrue c (compEnvC scope cl C env) (eval c (compEnvC scope cl C env)); pure (ForInStep.yield ok) else pure (ForInStep.yield r))
          (fun ok s₄ => ok = p v ∧ Keeps s₃ s₄) E' s₃)
    (he : ∀ C (i : Nat) v s₃ m₃ E', items[i]? = some v → p v = true → s₃.heap.Ns C m₃ → m₃ x = some v → Stand g L m news s₃.heap →
        wpAny (model pw w) A (eval elt (compEnvC scope cl C env)) (fun y s₄ => F v y ∧ Keeps s₃ s₄) E' s₃)
    (hQ : ∀ D h' tk ys k (vs : List Value), Fr g L h' m → News g L h' ((D, PySem.W.listOf ys k) :: news) → (∀ q ∈ news, q.1 ≠ D) → vs = items.toList → Paired F (vs.filter p) ys.toList → Q (.ref D) { s with heap := h', toks := tk })
    (hs : ∀ x, foldedSetIterable iter env x = pure x := by intro _; rfl) :
    wpAny (model pw w) A (eval (.ListComp elt [⟨.Name x px, iter, ifs, 0⟩] scope pos) env) Q E s := by
  have hls := (S.2 _ hl).1
  have hlt := Heap.lt_size hls
  refine comp_core (g := g) (L := L) (m := m) (news := news) p F hclos hcell hkind hnames hx (hi _ fun tk' => (wpAny_pyIter_list (s := { s with toks := tk' }) (items := items) ⟨_, hls, rfl, _, rfl⟩ ?_)) hs
  refine ⟨_, _, _, _, _, rfl, Walks.list hh s.heap.objs.size l (Nat.ne_of_lt hlt) items, hz, ⟨⟨_, Heap.get?_push_size _ rfl, rfl, rfl⟩, ⟨_, Heap.get?_push_of_some _ hls, rfl, _, rfl⟩⟩, ?_, S.push _, apart_new S, ht, he, fun D h' tk ys k vs a b c d e f => hQ D h' tk ys k vs a b c ?_ f⟩
  · intro b hb
    rw [Heap.size_push]
    rcases List.mem_cons.mp hb with rfl | hb
    · exact Nat.lt_succ_self _
    · rw [List.mem_singleton.mp hb]; exact Nat.lt_succ_of_lt hlt
  · apply List.ext_getElem?
    intro j
    by_cases hj : j < vs.length
    · rw [List.getElem?_eq_getElem hj]
      have := e j vs[j] (List.getElem?_eq_getElem hj)
      rw [← this]; simp
    · rw [List.getElem?_eq_none (by omega), List.getElem?_eq_none (by rw [Array.length_toList]; omega)]
end
end
section
open PySem PySem.W PySem.Calls PyProof.Rows PySem.Spec
set_option maxHeartbeats 2000000
noncomputable abbrev lenv (L fa : Addr) (cd : Value) : Env := envOfC (Str.ofString "law") scoLaw L fa cd
noncomputable abbrev lA (L fa : Addr) (cd : Value) : Around := callerA.deeper (lenv L fa cd)
theorem text_size {va vb : Array Value} {ps : List Int} (hS : StrsAre va.toList (textS ps)) (hM : StrsAre vb.toList (textM ps)) (h0 : ps.length = 10) : va.size = vb.size ∧ 10 ≤ va.size ∧ va.size ≤ 16 := by
  have a := strs_len hS
  have b := strs_len hM
  have c := flat_len ps
  unfold textS at a
  unfold textM at b
  rw [List.length_take, Array.length_toList] at a b
  omega
theorem text_use {w : World} {mean : ExcName → Option Value} {mg mb : Str → Option Value} {news : List (Addr × Obj)} {Ax : Addr} {vs : List Value} {ns : List Int} (hi : IntsAre vs ns) (hn : ns.length ≤ 63)
    {dp un : Nat} {gd : Option (List Code)} {cn : Str} {cs : Scope} {a : Addr} {ccd : Value} {cl : List (Str × Addr)} {outer : List Env} {A₀ : Around} {base h₀ : Heap} {L : Addr} {m : Str → Option Value} {s : Shared} {Q E : Value → Shared → Prop}
    (B : Below A₀ base outer h₀) (F : Fr h₀ L s.heap m) (X : (K w.params).In h₀) (N : News h₀ L s.heap news) (T : Top tq lz mean mg mb h₀) (hk : cs.kind = .function) (hl : h₀.IsList Ax vs.toArray) (hd : dp + 80 < recursionLimit) (hu : un + 800 < cLine)
    (h : ∀ t a b va vb ps h' tk', StrsAre va.toList (textS ps) → StrsAre vb.toList (textM ps) → ps.length = 10 → (∀ n ∈ ps, 0 ≤ n ∧ n < 512) → (∀ p ∈ news, @LT.lt Nat _ p.1 a) → @LT.lt Nat _ a b → @LT.lt Nat _ b t → (va.size = vb.size ∧ 10 ≤ va.size ∧ va.size ≤ 16) → Fr h₀ L h' m → News h₀ L h' ((t, tupO a b) :: (b, PySem.W.listOf vb 0) :: (a, PySem.W.listOf va 0) :: news) → Q (.ref t) { s with heap := h', toks := tk' }) :
    wpAny (model pw w) (ktrTop dp un gd cn cs L a ccd cl outer) (call (.ref 176) [.ref Ax]) Q E s := by
  refine wpAny_call (text_c w mean mg mb news Ax vs ns hi hn dp un gd cn cs a ccd cl outer A₀ base h₀ L m s _ B F X N T hk hl hd hu ?_)
  rintro v' h' tk' news' ⟨t, a', b', va, vb, ps, rfl, rfl, hS, hM, h0, h1, h2, h3, h4⟩ F' N'
  exact h t a' b' va vb ps h' tk' hS hM h0 h1 h2 h3 h4 (text_size hS hM h0) F' N'
local macro_rules | `(tactic| walk_at "call ref") => `(tactic| (k_here; k_dflt (refine' text_use (by assumption) (by assumption) (by k_asm) (by k_asm) (by k_asm) (by k_asm) (by k_asm) rfl (by assumption) (by k_room) (by k_units) ?_; k_whole); intro t' a' b' va' vb' ps' h' tk' hS' hM' hp' hq' l1' l2' l3' hz' F' N'; (try k_lt l1')))
local macro_rules | `(tactic| walk_at "eval ListComp") => `(tactic| (k_here; refine stop_intro ?_))
local macro_rules | `(tactic| walk_at "exec For") => `(tactic| (k_here; refine stop_intro ?_))
local macro_rules | `(tactic| walk_at "exec For Name Call cons nil") => `(tactic| (k_here; refine stop_intro ?_))
theorem ld_law {w : World} {A : Around} {E : Value → Shared → Prop} {s : Shared} {g : Heap} {L fa : Addr} {cd : Value} {m : Str → Option Value} {x : Str} {pos : Pos} {v : Value} {Q : Value → Shared → Prop} (F : Fr g L s.heap m) (hv : m x = some v) (h : Q v s) (hl : (lenv L fa cd).kindOf x = some .local) (hd : (x == ("__debug__" : Str)) = false) :
    wpAny (model pw w) A (eval (.Name x pos) (lenv L fa cd)) Q E s := wpAny_Name (wpAny_loadName_local (env := lenv L fa cd) rfl hl F.ns hv h) hd
local macro_rules | `(tactic| walk_at "eval Name") => `(tactic| (k_here; (with_reducible show wpAny _ _ (eval (Expr.Name _ _) (lenv _ _ _)) _ _ _); k_dflt (refine' ld_law (by k_asm) (by assumption) ?_ rfl (by decide))))
theorem count_led {w : World} {A : Around} {E : Value → Shared → Prop} {s : Shared} {g : Heap} {L l : Addr} {news : List (Addr × Obj)} {items : Array Value} {ys : List Str} {kl : Nat} {x : Str} {t : Tok} {Q : Value → Shared → Prop} (N : News g L s.heap news) (hm : (l, PySem.W.listOf items kl) ∈ news) (hi : StrsAre items.toList ys)
    (h : Q (.int (countIn (.str x) (ys.map PyData.str)) s.toks) { s with toks := s.toks + 1 }) : wpAny (model pw w) A (call (.builtin "list.count") [.ref l, .str x t]) Q E s :=
  count_list_strs (vs := items.toList) (by rw [Array.toArray_toList]; exact ⟨_, (N _ hm).1, rfl, _, rfl⟩) hi h
local macro_rules | `(tactic| walk_at "call builtin:list.count") => `(tactic| (k_here; k_dflt (refine' count_led (by k_asm) (by k_mem) (by assumption) ?_)))
local macro_rules | `(tactic| walk_at "subscriptTail Name Slice ref ref") => `(tactic| (k_here; k_dflt (refine' kms_slice_lit (by k_asm) (by k_asm) (by kmk_list) (by kmk_part) (by kmk_part) rfl ?_ (by with_unfolding_all rfl) (by kmk_pure) (by (rw [sizeLine_eq]; omega))); intro D' h' F' N' l1; (try k_lt l1)))
local macro_rules | `(tactic| walk_at "call builtin:str.join") => `(tactic| (k_here; k_dflt (refine' join_led (by k_asm) (by k_mem) (by assumption) (by decide) (by assumption) ?_); intro t' tk'))
local macro_rules | `(tactic| walk_at "call builtin:len") => `(tactic| ((with_reducible show wpAny _ _ (call (Value.builtin "len") [Value.str _ _]) _ _ _); refine SBL.len (by assumption) ?_))
noncomputable def lvN (ms : List Str) (t : Nat) : Nat := (cat (ms.take t)).length
theorem ints_snoc {vs : List Value} {ns : List Int} {n : Int} {t : Tok} (h : IntsAre vs ns) : IntsAre (vs ++ [.int n t]) (ns ++ [n]) := IntsAre.append h (.cons n t .nil)
end
section
open PySem PySem.W PySem.Calls PyProof.Rows PySem.Spec
local macro_rules | `(tactic| walk_at "eval Name") => `(tactic| (k_here; (with_reducible show wpAny _ _ (eval (Expr.Name _ _) (lenv _ _ _)) _ _ _); k_dflt (refine' ld_law (by k_asm) (by assumption) ?_ rfl (by decide))))
local macro_rules | `(tactic| walk_at "subscriptTail Name Slice ref ref") => `(tactic| (k_here; k_dflt (refine' kms_slice_lit (by k_asm) (by k_asm) (by kmk_list) (by kmk_part) (by kmk_part) rfl ?_ (by with_unfolding_all rfl) (by kmk_pure) (by (rw [sizeLine_eq]; omega))); intro D' h' F' N' l1; (try k_lt l1)))
local macro_rules | `(tactic| walk_at "call builtin:str.join") => `(tactic| (k_here; k_dflt (refine' join_led (by k_asm) (by k_mem) (by assumption) (by decide) (by assumption) ?_); intro t' tk'))
local macro_rules | `(tactic| walk_at "eval ListComp") => `(tactic| (k_here; refine stop_intro ?_))
local macro_rules | `(tactic| walk_at "call builtin:len") => `(tactic| ((with_reducible show wpAny _ _ (call (Value.builtin "len") [Value.str _ _]) _ _ _); refine SBL.len (by assumption) ?_))
local macro_rules | `(tactic| walk_at "call ref") => `(tactic| (k_here; (with_reducible show wpAny _ _ (call (Value.ref 42, _).1 _) _ _ _); refine stop_intro ?_))
local macro_rules | `(tactic| walk_at "subscriptTail Name Name ref int") => `(tactic| (k_here; k_dflt (refine' sub_ints (by k_asm) (by k_mem) (by assumption) (by assumption) (by with_unfolding_all rfl) (by (intro _; with_unfolding_all rfl)) ?_); intro t'))
section
open PySem PySem.W PySem.Calls PyProof.Rows PySem.Spec
set_option maxHeartbeats 2000000
local macro_rules | `(tactic| kpc_none) => `(tactic| grind)

noncomputable abbrev lw5 : Stmt := unw (x := .For _ _ _ _ _) (y := bodLaw.getD 5 (.Pass default)) (.refl _)
noncomputable def WinsAt (lv : Nat → Nat) (k : Nat) (wv : List Value) (wl : List (Addr × Obj)) : Prop :=
  wv.length = k + 1 ∧ ∀ j, j ≤ k → ∃ a its kk, wv[j]? = some (.ref a) ∧ (a, PySem.W.listOf its kk) ∈ wl ∧ IntsAre its.toList (((winsUp lv j).getD j []).map fun u : Nat => (u : Int))
theorem wins_le (lv : Nat → Nat) : ∀ j, ∀ u ∈ (winsUp lv j).getD j [], 1 ≤ u ∧ u ≤ j
  | 0, u, h => by simp [winsUp] at h
  | j + 1, u, h => by
    rw [winsUp, List.getD_eq_getElem?_getD, List.getElem?_append_right (by rw [winsUp_len]; omega), winsUp_len] at h
    simp only [Nat.sub_self, List.getElem?_cons_zero, Option.getD_some] at h
    have := (List.mem_filter.mp h).1
    rw [List.mem_range'_1] at this
    omega
noncomputable def winRow (lv : Nat → Nat) (i k : Nat) : List Nat := (List.range' 1 k).filter fun t => (((winsUp lv i).getD (i + 1 - t) []).filter fun u => decide (lv u ≤ t)) == []
theorem eq_led {w : World} {A : Around} {E : Value → Shared → Prop} {s : Shared} {g : Heap} {L a b : Addr} {news : List (Addr × Obj)} {xs ys : Array Value} {k1 k2 : Nat} {ns ms : List Int} {Q : Value → Shared → Prop} (N : News g L s.heap news) (ha : (a, PySem.W.listOf xs k1) ∈ news) (hb : (b, PySem.W.listOf ys k2) ∈ news) (hi : IntsAre xs.toList ns) (hj : IntsAre ys.toList ms) (hu : A.units + 64 < cLine)
    (h : Q (.bool (decide (ns = ms))) s) : wpAny (model pw w) A (compareOp .Eq (.ref a) (.ref b)) Q E s :=
  eq_intsK (vs := xs.toList) (us := ys.toList) (by rw [Array.toArray_toList]; exact ⟨_, (N _ ha).1, rfl, _, rfl⟩) hi (by rw [Array.toArray_toList]; exact ⟨_, (N _ hb).1, rfl, _, rfl⟩) hj hu h
theorem wins_len (lv : Nat → Nat) : ∀ j, ((winsUp lv j).getD j []).length ≤ j
  | 0 => by simp [winsUp]
  | j + 1 => by
    rw [winsUp, List.getD_eq_getElem?_getD, List.getElem?_append_right (by rw [winsUp_len]; omega), winsUp_len]
    simp only [Nat.sub_self, List.getElem?_cons_zero, Option.getD_some]
    refine Nat.le_trans (List.length_filter_le _ _) ?_
    simp
theorem int_mem {us : List Nat} {its : Array Value} {i : Nat} {v : Value} (h : IntsAre its.toList (us.map fun u : Nat => (u : Int))) (hv : its[i]? = some v) : ∃ (u : Nat) (t : Tok), v = .int (u : Int) t ∧ u ∈ us := by
  have hl : i < (us.map fun u : Nat => (u : Int)).length := by
    rw [← h.length, Array.length_toList]
    exact (Array.getElem?_eq_some_iff.mp hv).1
  obtain ⟨t, e⟩ := ints_at h hl
  rw [Array.getElem?_toList, hv] at e
  have hl' : i < us.length := by simpa using hl
  refine ⟨us[i], t, ?_, List.getElem_mem hl'⟩
  rw [Option.some.inj e, List.getD_eq_getElem?_getD, List.getElem?_map, List.getElem?_eq_getElem hl']
  rfl
theorem paired_eq : ∀ {l ys : List Value}, Paired (fun v y => v = y) l ys → ys = l
  | _, _, .nil => rfl
  | _, _, .cons h1 h2 => by rw [h1, paired_eq h2]
theorem ints_filter {p : Value → Bool} {q : Nat → Bool} : ∀ {us : List Nat} {vs : List Value}, IntsAre vs (us.map fun u : Nat => (u : Int)) → (∀ u t, u ∈ us → p (.int (u : Int) t) = q u) → IntsAre (vs.filter p) ((us.filter q).map fun u : Nat => (u : Int))
  | [], _, .nil, _ => .nil
  | u :: us, _, .cons _ t h, hp => by
    rw [List.filter_cons, List.filter_cons, hp u t (.head _)]
    have ih := ints_filter h fun u t hu => hp u t (.tail _ hu)
    split
    · exact .cons _ _ ih
    · exact ih
local macro_rules | `(tactic| walk_at "call builtin:list.append") => `(tactic| (k_here; (with_reducible show wpAny _ _ (call (Value.builtin _) [Value.ref _, _]) _ _ _); k_dflt (refine' append_K (by k_asm) (by k_asm) (by k_upd) ?_ (by (rw [sizeLine_eq]; (simp only [List.size_toArray]); omega)); k_whole); intro h' F' N'))
theorem RangePost.mk' {g h₁ : Heap} {L r : Addr} {m : Str → Option Value} {news : List (Addr × Obj)} {a b : Int} {n : Nat} {s : Shared} {tk₁ : Nat} {t u c : Tok} (hr : IsRange h₁ r a b 1 t u c) (e : b = a + n) (F : Fr g L h₁ m) (N : News g L h₁ news) : RangePost g L m news a n s (.ref r) { s with heap := h₁, toks := tk₁ } := by
  subst e
  exact ⟨_, _, _, _, _, _, rfl, rfl, hr, F, N⟩
theorem winRow_snoc {lv : Nat → Nat} {i j : Nat} {ys : List Value} {t : Tok} (hj : j ≤ i) (h : IntsAre ys ((winRow lv i j).map fun u : Nat => (u : Int))) :
    IntsAre (if decide ((((winsUp lv (i - j)).getD (i - j) []).filter fun u => decide (lv u ≤ 1 + j)).map (fun u : Nat => (u : Int)) = []) = true then ys ++ [.int (1 + (j : Int)) t] else ys) ((winRow lv i (j + 1)).map fun u : Nat => (u : Int)) := by
  have e : winRow lv i (j + 1) = winRow lv i j ++ if (((winsUp lv (i - j)).getD (i - j) []).filter fun u => decide (lv u ≤ 1 + j)) = [] then [1 + j] else [] := by
    unfold winRow
    rw [List.range'_1_concat, List.filter_append]
    congr 1
    rw [List.filter_cons, List.filter_nil]
    have e2 : i + 1 - (1 + j) = i - j := by omega
    rw [e2, winsUp_pre lv i (by omega)]
    by_cases hc : (((winsUp lv (i - j)).getD (i - j) []).filter fun u => decide (lv u ≤ 1 + j)) = []
    · rw [hc]; rfl
    · rw [if_neg hc, if_neg (by simpa using hc)]
  rw [e]
  by_cases hc : (((winsUp lv (i - j)).getD (i - j) []).filter fun u => decide (lv u ≤ 1 + j)) = []
  · rw [if_pos hc, if_pos (by rw [hc]; rfl), List.map_append]
    have : ((1 + j : Nat) : Int) = 1 + (j : Int) := by omega
    simp only [List.map_cons, List.map_nil]
    rw [this]
    exact ints_snoc h
  · rw [if_neg hc, if_neg (by simpa using hc), List.append_nil]
    exact h
local macro_rules | `(tactic| walk_at "subscriptTail Name") => `(tactic| (k_here; k_dflt (refine' sub_list (by k_asm) (by k_mem) (by assumption) (by with_unfolding_all rfl) (by (intro _; with_unfolding_all rfl)) ?_)))
local macro_rules | `(tactic| walk_at "compareOp Eq ref ref") => `(tactic| (k_here; k_dflt (refine' eq_led (by k_asm) (by k_mem) (by k_mem) (by assumption) (by exact IntsAre.nil) (by k_units) ?_)))
theorem law_b (w : World) (mean : ExcName → Option Value) (mg mb : Str → Option Value) (g : Heap) (L fa : Addr) (cd : Value) (base : Heap) (s : Shared) (m : Str → Option Value) (oN oW oL : Obj) (lvA wn w0 : Addr) (ysA : Array Value) (kA kw k0 W : Nat) (tW : Tok) (lv : Nat → Nat) (rest : List (Addr × Obj)) (v0 : Option Value) (Q : Flow → Shared → Prop) (E : Value → Shared → Prop)
    (B : Below callerA base [] g) (X : (K w.params).In g) (T : Top tq lz mean mg mb g) (F : Fr g L s.heap m) (hmW : m (Str.ofString "whole") = some (.int W tW)) (hW : W ≤ 16)
    (N : News g L s.heap ((L + 1 + 1 + 1 + 1, oN) :: (L + 1 + 1 + 1, oW) :: (L + 1 + 1, oL) :: (lvA, PySem.W.listOf ysA kA) :: (wn, PySem.W.listOf #[.ref w0] kw) :: ([(w0, PySem.W.listOf #[] k0)] ++ rest)))
    (dN : oN.data = .cell v0) (dW : oW.data = .cell (some (.ref wn))) (dL : oL.data = .cell (some (.ref lvA))) (hw0 : ∀ p ∈ rest, @Ne Nat p.1 w0) (hys : IntsAre ysA.toList ((List.range (W + 1)).map fun t => (lv t : Int)))
    (q1 : @Ne Nat lvA (L + 1 + 1 + 1 + 1)) (q2 : @Ne Nat lvA wn) (q5 : @LT.lt Nat _ (L + 1 + 1 + 1 + 1) wn) (q3 : ∀ q ∈ [(w0, PySem.W.listOf #[] k0)] ++ rest, @Ne Nat q.1 (L + 1 + 1 + 1 + 1)) (q4 : ∀ q ∈ [(w0, PySem.W.listOf #[] k0)] ++ rest, @Ne Nat q.1 wn)
    (hdone : ∀ h tk oN' v' wv kw' wi, oN'.data = .cell v' → WinsAt lv W wv wi → (∀ q ∈ wi, ∀ p ∈ rest, @Ne Nat p.1 q.1) → Fr g L h m → News g L h ((L + 1 + 1 + 1 + 1, oN') :: (L + 1 + 1 + 1, oW) :: (L + 1 + 1, oL) :: (lvA, PySem.W.listOf ysA kA) :: (wn, PySem.W.listOf wv.toArray kw') :: (wi ++ rest)) → Q .next { s with heap := h, toks := tk }) :
    wpAny (model pw w) (lA L fa cd) (exec lw5 (lenv L fa cd)) Q E s := by
  have hlve : ∀ u, u ≤ W → ((List.range (W + 1)).map fun t => (lv t : Int)).getD u 0 = lv u := fun u hu => by
    rw [List.getD_eq_getElem?_getD, List.getElem?_map, List.getElem?_range (by omega)]; rfl
  have hlvl : ((List.range (W + 1)).map fun t => (lv t : Int)).length = W + 1 := by simp
  generalize ((List.range (W + 1)).map fun t => (lv t : Int)) = lvs at *
  refine for_range (h₀ := g) (L := L) (n := W) (a := 1) (m₀ := m) (news := (L + 1 + 1 + 1 + 1, oN) :: (L + 1 + 1 + 1, oW) :: (L + 1 + 1, oL) :: (lvA, PySem.W.listOf ysA kA) :: (wn, PySem.W.listOf #[.ref w0] kw) :: ([(w0, PySem.W.listOf #[] k0)] ++ rest)) (fun i m' nx => m' = m ∧ ∃ oN' v' wv kw' wi, nx = (L + 1 + 1 + 1 + 1, oN') :: (L + 1 + 1 + 1, oW) :: (L + 1 + 1, oL) :: (lvA, PySem.W.listOf ysA kA) :: (wn, PySem.W.listOf wv.toArray kw') :: (wi ++ rest) ∧ oN'.data = .cell v' ∧ WinsAt lv i wv wi ∧ (∀ q ∈ wi, ∀ p ∈ rest, @Ne Nat p.1 q.1) ∧ (∀ q ∈ wi ++ rest, @Ne Nat q.1 (L + 1 + 1 + 1 + 1)) ∧ (∀ q ∈ wi ++ rest, @Ne Nat q.1 wn)) rfl ?hi ?hsm ?hJ ?turn ?done
  case hsm => exact small_one (by omega) (by omega) (by omega) (by omega)
  case hJ =>
    refine ⟨rfl, oN, v0, [.ref w0], kw, [(w0, PySem.W.listOf #[] k0)], rfl, dN, ⟨rfl, fun j hj => ⟨w0, #[], k0, ?_, .head _, ?_⟩⟩, fun q hq p hp => ?_, q3, q4⟩
    · have : j = 0 := by omega
      subst this; rfl
    · have : j = 0 := by omega
      subst this; exact .nil
    · rw [List.mem_singleton.mp hq]; exact hw0 p hp
  case done =>
    rintro m' _ h tk ⟨rfl, oN', v', wv, kw', wi, rfl, hd, hwin, hsub, h3, h4⟩ F1 N1
    exact hdone h tk oN' v' wv kw' wi hd hwin hsub F1 N1
  case hi =>
    k_steps
    exact ⟨_, _, _, _, _, _, rfl, rfl, by simpa [Int.add_comm] using (by assumption : IsRange _ _ _ _ _ _ _ _), by assumption, by assumption⟩
  case turn =>
    rintro I i t m' _ h tk oI E' hlt ⟨rfl, oN', v', wv, kw', wi, rfl, hd, hwin, hsub, h3, h4⟩ F1 N1 off
    have n4 : @Ne Nat (L + 1 + 1 + 1 + 1) I := off _ (.head _)
    have n3 : @Ne Nat (L + 1 + 1 + 1) I := off _ (.tail _ (.head _))
    have n2 : @Ne Nat (L + 1 + 1) I := off _ (.tail _ (.tail _ (.head _)))
    have nlv : @Ne Nat lvA I := off _ (.tail _ (.tail _ (.tail _ (.head _))))
    have nwn : @Ne Nat wn I := off _ (.tail _ (.tail _ (.tail _ (.tail _ (.head _)))))
    have nwl : ∀ q ∈ wi ++ rest, @Ne Nat q.1 I := fun q hq => off q (.tail _ (.tail _ (.tail _ (.tail _ (.tail _ hq)))))
    k_steps
    rename_i h2 oN2 F2 N2 dN2
    show wpAny _ _ (eval (Expr.ListComp _ _ _ _) _) _ _ _
    refine' comp_cellR (a := 1) (n := i + 1) (fun j ys nx => nx = (I, oI) :: (L + 1 + 1 + 1 + 1, oN2) :: (L + 1 + 1 + 1, oW) :: (L + 1 + 1, oL) :: (lvA, PySem.W.listOf ysA kA) :: (wn, PySem.W.listOf wv.toArray kw') :: (wi ++ rest) ∧ IntsAre ys ((winRow lv i j).map fun u : Nat => (u : Int))) rfl F2 N2 ?clos ?cf ?pc ?kind ?names ?x ?hb ?hi ?hz ?hsm ?hJ ?turn ?done
    case clos => rfl
    case cf => intro c; rfl
    case pc => intro h; rfl
    case kind => rfl
    case names => decide +kernel
    case x => rfl
    case hb => decide
    case hz => rw [sizeLine_eq]; omega
    case hsm => exact small_one (by omega) (by omega) (by omega) (by omega)
    case hJ => exact ⟨rfl, .nil⟩
    case hi =>
      k_steps
      exact RangePost.mk' (by assumption) (by omega) (by assumption) (by assumption)
    case turn =>
      rintro j tj I2 oI2 C2 oC2 c2 oc2 D2 ys _ h tk E2 hjl ⟨rfl, hys2⟩ hoc2 F3 N3 off3 ne3
      obtain ⟨a9, its, k9, hwa, hma, hia⟩ := hwin.2 (i - j) (by omega)
      have hx9 : (0 : Int) ≤ 1 + (i : Int) - (1 + (j : Int)) ∧ 1 + (i : Int) - (1 + (j : Int)) < 2 ^ 63 ∧ wv.toArray[(1 + (i : Int) - (1 + (j : Int))).toNat]? = some (Value.ref a9) := by
        have e9 : (1 + (i : Int) - (1 + (j : Int))).toNat = i - j := by omega
        rw [e9, List.getElem?_toArray]
        exact ⟨by omega, by omega, hwa⟩
      have hjr : ∀ (u : Nat), u ∈ (winsUp lv (i - j)).getD (i - j) [] → u ≤ W := fun u hu => by
        have := wins_le lv (i - j) u hu
        omega
      k_steps
      have S3 : Stand g L _ _ h := ⟨F3, N3⟩
      show wpAny _ _ (eval (Expr.ListComp _ _ _ _) _) _ _ _
      refine' comp_listT (g := g) (L := L) (news := _) (fun v => match v with | .int u _ => decide (lvs.getD u.toNat 0 ≤ 1 + (j : Int)) | _ => false) (fun v y => v = y) rfl a9 its k9 ?clos ?cell ?kind ?names ?x ?hi ?hz S3 ?hl ?ht ?he ?hQ
      case clos => rfl
      case cell => decide +kernel
      case kind => rfl
      case names => decide +kernel
      case x => decide +kernel
      case hl => exact .tail _ (.tail _ (.tail _ (.tail _ (.tail _ (.tail _ (.tail _ (.tail _ (.tail _ (.tail _ (List.mem_append_left _ hma))))))))))
      case hz =>
        have := hia.length
        rw [Array.length_toList, List.length_map] at this
        have h8 := wins_len lv (i - j)
        rw [sizeLine_eq]; omega
      case hi =>
        intro Q' hq
        k_steps
        exact hq _
      case ht =>
        intro C4 i4 v s₃ m₃ E' hv hns hm S
        obtain ⟨F8, N8⟩ := S
        obtain ⟨u, tu, rfl, hu⟩ := int_mem hia hv
        refine wpAny_tests_one ?_
        have huW := hjr u hu
        have hb : (0 : Int) ≤ (u : Int) ∧ (u : Int) < 1000000 ∧ ((u : Int)).toNat < lvs.length := by omega
        iterate 30 (try (first | (k_unfold; (try dsimp only)) | walk1 | (dsimp only; walk1)))
        exact ⟨_, _, rfl, fun _ _ e => e⟩
      case he =>
        intro C4 i4 v s₃ m₃ E' hv hp hns hm S
        obtain ⟨F8, N8⟩ := S
        iterate 30 (try (first | (k_unfold; (try dsimp only)) | walk1 | (dsimp only; walk1)))
        exact ⟨_, _, rfl, fun _ _ e => e⟩
      case hQ =>
        intro D3 h3 tk3 ys3 k3 vs3 F5 N5 hne5 hvs5 hF5
        have hys3 : IntsAre ys3.toList ((((winsUp lv (i - j)).getD (i - j) []).filter fun u => decide (lv u ≤ 1 + j)).map fun u : Nat => (u : Int)) := by
          rw [paired_eq hF5, hvs5]
          refine ints_filter hia fun u tu hu => ?_
          show decide (lvs.getD ((u : Int)).toNat 0 ≤ 1 + (j : Int)) = _
          rw [show ((u : Int)).toNat = u by omega, hlve u (hjr u hu)]
          exact decide_eq_decide.mpr (by omega)
        have hD := hne5
        k_steps
        refine CEnd.intro ((I, oI) :: (L + 1 + 1 + 1 + 1, oN2) :: (L + 1 + 1 + 1, oW) :: (L + 1 + 1, oL) :: (lvA, PySem.W.listOf ysA kA) :: (wn, PySem.W.listOf wv.toArray kw') :: (wi ++ rest)) (by assumption) (by assumption) (by kcf_all) off3 ⟨rfl, ?_⟩
        exact winRow_snoc (by omega) hys2
    case done =>
      rintro D h tk ys _ ⟨rfl, hys2⟩ F3 N3 off3
      simp only [List.forall_mem_cons] at off3
      obtain ⟨p1, p2, p3, p4, p5, p6, p7⟩ := off3
      have hwl1 := hwin.1
      k_steps
      rename_i h8 F8 N8
      simp only [List.push_toArray] at N8
      refine TurnEnd2.next ((L + 1 + 1 + 1 + 1, oN2) :: (L + 1 + 1 + 1, oW) :: (L + 1 + 1, oL) :: (lvA, PySem.W.listOf ysA kA) :: (wn, PySem.W.listOf (wv ++ [Value.ref D]).toArray (kw' + 1)) :: (((D, LCg.lst ys) :: wi) ++ rest)) F8 N8 (by k_mem) (by kcf_all) ?_ ⟨rfl, oN2, _, _, _, _, rfl, dN2, ?_, ?_, ?_, ?_⟩
      · exact List.forall_mem_cons.mpr ⟨n4, List.forall_mem_cons.mpr ⟨n3, List.forall_mem_cons.mpr ⟨n2, List.forall_mem_cons.mpr ⟨nlv, List.forall_mem_cons.mpr ⟨nwn, List.forall_mem_cons.mpr ⟨fun e => p1 e.symm, nwl⟩⟩⟩⟩⟩⟩
      · refine ⟨by simp [hwl1], fun j hj => ?_⟩
        by_cases hji : j = i + 1
        · subst hji
          refine ⟨D, ys.toArray, ys.length, by rw [List.getElem?_append_right (by omega), hwl1]; simp, .head _, ?_⟩
          have e9 : (winsUp lv (i + 1)).getD (i + 1) [] = winRow lv i (i + 1) := by
            rw [winsUp, List.getD_eq_getElem?_getD, List.getElem?_append_right (by rw [winsUp_len]; omega), winsUp_len]
            simp [winRow]
          rw [e9]
          exact hys2
        · obtain ⟨a9, its, k9, hwa, hma, hia⟩ := hwin.2 j (by omega)
          exact ⟨a9, its, k9, by rw [List.getElem?_append_left (by omega)]; exact hwa, .tail _ hma, hia⟩
      · exact List.forall_mem_cons.mpr ⟨fun p hp => p7 p (List.mem_append_right _ hp), hsub⟩
      · exact List.forall_mem_cons.mpr ⟨fun e => p2 e.symm, h3⟩
      · exact List.forall_mem_cons.mpr ⟨fun e => p6 e.symm, h4⟩
end
section
open PySem PySem.W PySem.Calls PyProof.Rows PySem.Spec
set_option maxHeartbeats 2000000
local macro_rules | `(tactic| kpc_none) => `(tactic| grind)

theorem str_mem {ys : List Str} {its : Array Value} {i : Nat} {v : Value} (h : StrsAre its.toList ys) (hv : its[i]? = some v) : ∃ (x : Str) (t : Tok), v = .str x t ∧ x ∈ ys := by
  have hl : i < ys.length := by
    rw [← strs_len h, Array.length_toList]
    exact (Array.getElem?_eq_some_iff.mp hv).1
  obtain ⟨t, e⟩ := strs_at h hl
  rw [Array.getElem?_toList, hv] at e
  refine ⟨ys[i], t, ?_, List.getElem_mem hl⟩
  rw [Option.some.inj e, List.getD_eq_getElem?_getD, List.getElem?_eq_getElem hl]
  rfl
theorem strs_bs : ∀ {vs rs : List Value} {ys : List Str}, StrsAre vs ys → Paired (fun v y => ∃ x t u, v = Value.str x t ∧ y = Value.str (Str.ofString "\\" ++ x) u) vs rs → StrsAre rs (ys.map fun x => Str.ofString "\\" ++ x)
  | _, _, _, .nil, h => by cases h; exact .nil
  | _, _, _, .cons y t h, h' => by
    cases h' with
    | cons a b =>
      obtain ⟨x, t', u, e1, e2⟩ := a
      cases e1
      rw [e2]
      exact .cons _ _ (strs_bs h b)
local macro_rules | `(tactic| walk_at "call ref") => `(tactic| (k_here; k_dflt (refine' text_use (by assumption) (by assumption) (by k_asm) (by k_asm) (by k_asm) (by k_asm) (by k_asm) rfl (by assumption) (by k_room) (by k_units) ?_; k_whole); intro t' a' b' va' vb' ps' h' tk' hS' hM' hp' hq' l1' l2' l3' hz' F' N'; (try k_lt l1')))
local macro_rules | `(tactic| walk_at "exec For") => `(tactic| (k_here; refine stop_intro ?_))
local macro_rules | `(tactic| walk_at "exec For Name Call cons nil") => `(tactic| (k_here; refine stop_intro ?_))
local macro_rules | `(tactic| walk_at "call builtin:list.count") => `(tactic| (k_here; k_dflt (refine' count_led (by k_asm) (by k_mem) (by assumption) ?_)))
noncomputable abbrev lwC : List Stmt := unw (x := [_, _, _, _, _, _, _, _, _, _, _, _]) (y := bodLaw.drop 7) (.refl _)
structure LawC (L : Addr) (ps : List Int) (tA tB D wn : Addr) (va vb ysv : Array Value) (wv : List Value) (wi : List (Addr × Obj)) (oM oL oW oN o5 o6 o7 o8 : Obj) : Prop where
  hS : StrsAre va.toList (textS ps)
  hM : StrsAre vb.toList (textM ps)
  hp : ps.length = 10
  hq : ∀ n ∈ ps, 0 ≤ n ∧ n < 512
  hz : va.size = vb.size ∧ 10 ≤ va.size ∧ va.size ≤ 16
  lA : @LT.lt Nat _ (L + 1 + 1 + 1 + 1 + 1 + 1 + 1 + 1) tA
  lB : @LT.lt Nat _ tA tB
  hys : IntsAre ysv.toList ((List.range (va.size + 1)).map fun t => (lvN (textM ps) t : Int))
  hwin : WinsAt (lvN (textM ps)) va.size wv wi
  hdis : ∀ q ∈ wi, ∀ p ∈ (L + 1 + 1 + 1 + 1 + 1 + 1 + 1 + 1, o8) :: (L + 1 + 1 + 1 + 1 + 1 + 1 + 1, o7) :: (L + 1 + 1 + 1 + 1 + 1 + 1, o6) :: (L + 1 + 1 + 1 + 1 + 1, o5) :: (L + 1, oM) :: (tB, PySem.W.listOf vb 0) :: (tA, PySem.W.listOf va 0) :: (143, tabObj #[]) :: [], @Ne Nat p.1 q.1
  ltn : @LT.lt Nat _ tB wn
  h143 : @LT.lt Nat _ 143 L
  nD : (@Ne Nat tB D) ∧ (@Ne Nat tA D) ∧ (@Ne Nat (L + 1 + 1 + 1 + 1 + 1 + 1 + 1 + 1) D) ∧ (@Ne Nat (L + 1 + 1 + 1 + 1 + 1 + 1 + 1) D) ∧ (@Ne Nat (L + 1 + 1 + 1 + 1 + 1 + 1) D) ∧ (@Ne Nat (L + 1 + 1 + 1 + 1 + 1) D) ∧ (@Ne Nat (L + 1 + 1 + 1 + 1) D) ∧ (@Ne Nat (L + 1 + 1 + 1) D) ∧ (@Ne Nat (L + 1 + 1) D) ∧ (@Ne Nat (L + 1) D) ∧ (@Ne Nat 143 D) ∧ (@Ne Nat wn D)
  dM : oM.data = .cell (some (.ref tB))
  dL : oL.data = .cell (some (.ref D))
  dW : oW.data = .cell (some (.ref wn))
  dN : ∃ v, oN.data = .cell v
local macro_rules | `(tactic| walk_at "execs cons") => `(tactic| (k_here; (with_reducible show wpAny _ _ (execs (Stmt.Assign [Expr.Name (Str.ofString "lexer") _] _ _ :: _) _) _ _ _); refine stop_intro ?_))
theorem law_a (w : World) (mean : ExcName → Option Value) (mg mb : Str → Option Value) (g : Heap) (L fa Ax : Addr) (cd : Value) (base : Heap) (vs : List Value) (ns : List Int) (hi : IntsAre vs ns) (hn : ns.length ≤ 63) (s : Shared) (m : Str → Option Value) (o1 o2 o3 o4 o5 o6 o7 o8 : Obj) (Q : Flow → Shared → Prop) (E : Value → Shared → Prop)
    (B : Below callerA base [] g) (X : (K w.params).In g) (T : Top tq lz mean mg mb g) (C7 : CodeHd g 147 143) (hl : g.IsList Ax vs.toArray) (F : Fr g L s.heap m)
    (N : News g L s.heap [(L + 1 + 1 + 1 + 1 + 1 + 1 + 1 + 1, o8), (L + 1 + 1 + 1 + 1 + 1 + 1 + 1, o7), (L + 1 + 1 + 1 + 1 + 1 + 1, o6), (L + 1 + 1 + 1 + 1 + 1, o5), (L + 1 + 1 + 1 + 1, o4), (L + 1 + 1 + 1, o3), (L + 1 + 1, o2), (L + 1, o1), (143, tabObj #[])])
    (l0 : @LT.lt Nat _ 143 L) (hm : m (Str.ofString "script") = some (.ref Ax))
    (d1 : o1.data = .cell none) (d2 : o2.data = .cell none) (d3 : o3.data = .cell none) (d4 : o4.data = .cell none) (d5 : o5.data = .cell none) (d6 : o6.data = .cell none) (d7 : o7.data = .cell none) (d8 : o8.data = .cell none)
    (hk : ∀ h tk (m' : Str → Option Value) tA tB D wn va vb ysv kD kw ps wv wi oM oL oW oN tW tF tb, LawC L ps tA tB D wn va vb ysv wv wi oM oL oW oN o5 o6 o7 o8 → Fr g L h m' → News g L h ((L + 1 + 1 + 1 + 1 + 1 + 1 + 1 + 1, o8) :: (L + 1 + 1 + 1 + 1 + 1 + 1 + 1, o7) :: (L + 1 + 1 + 1 + 1 + 1 + 1, o6) :: (L + 1 + 1 + 1 + 1 + 1, o5) :: (L + 1 + 1 + 1 + 1, oN) :: (L + 1 + 1 + 1, oW) :: (L + 1 + 1, oL) :: (L + 1, oM) :: (tB, PySem.W.listOf vb 0) :: (tA, PySem.W.listOf va 0) :: (143, tabObj #[]) :: (D, PySem.W.listOf ysv kD) :: (wn, PySem.W.listOf wv.toArray kw) :: wi) → m' (Str.ofString "signs") = some (.ref tA) → m' (Str.ofString "whole") = some (.int va.size tW) → m' (Str.ofString "feeds") = some (.int (countIn (.str (Str.ofString "\n")) ((textS ps).map PyData.str)) tF) → m' (Str.ofString "bare") = some (.str (Txt.join (Str.ofString "") ((textS ps).map fun x => Str.ofString "\\" ++ x)) tb) → wpAny (model pw w) (lA L fa cd) (execs lwC (lenv L fa cd)) Q E { s with heap := h, toks := tk }) :
    wpAny (model pw w) (lA L fa cd) (execs bodLaw (lenv L fa cd)) Q E s := by
  k_steps
  rename_i tT tA tB va vb ps hx1 tkx hS hM hp10 hq l2 l3 hz l1 hx2 hx3 hx4 oM dM tk1 hx5 tk2 hx6 F1 N1
  have hms := textM_short ps
  have htl := textS_len hp10
  have hcat : ∀ t, lvN (textM ps) t ≤ 48 := fun t => by
    unfold lvN
    rw [cat_len]
    have := sum_short (l := (textM ps).take t) (b := 3) fun x hx => hms x (List.mem_of_mem_take hx)
    rw [List.length_take] at this
    omega
  have N1' := news_sub (l' := (tB, PySem.W.listOf vb 0) :: (tA, PySem.W.listOf va 0) :: (L + 1 + 1 + 1 + 1 + 1 + 1 + 1 + 1, o8) :: (L + 1 + 1 + 1 + 1 + 1 + 1 + 1, o7) :: (L + 1 + 1 + 1 + 1 + 1 + 1, o6) :: (L + 1 + 1 + 1 + 1 + 1, o5) :: (L + 1 + 1 + 1 + 1, o4) :: (L + 1 + 1 + 1, o3) :: (L + 1 + 1, o2) :: (L + 1, oM) :: (143, tabObj #[]) :: []) N1 (fun q hq => List.mem_cons_of_mem _ hq)
  clear N1
  show wpAny _ _ (eval (Expr.ListComp _ _ _ _) _) _ _ _
  refine' comp_rangeU (a := 0) (n := va.size + 1) (fun i ys nx => nx = (tB, PySem.W.listOf vb 0) :: (tA, PySem.W.listOf va 0) :: (L + 1 + 1 + 1 + 1 + 1 + 1 + 1 + 1, o8) :: (L + 1 + 1 + 1 + 1 + 1 + 1 + 1, o7) :: (L + 1 + 1 + 1 + 1 + 1 + 1, o6) :: (L + 1 + 1 + 1 + 1 + 1, o5) :: (L + 1 + 1 + 1 + 1, o4) :: (L + 1 + 1 + 1, o3) :: (L + 1 + 1, o2) :: (L + 1, oM) :: (143, tabObj #[]) :: [] ∧ IntsAre ys ((List.range i).map fun t => (lvN (textM ps) t : Int))) rfl F1 N1' ?clos ?cell ?kind ?names ?x ?hi ?hz ?hsm ?hJ ?turn ?done
  case clos => rfl
  case cell => decide +kernel
  case kind => rfl
  case names => decide +kernel
  case x => decide +kernel
  case hz => rw [sizeLine_eq]; omega
  case hsm => exact small_one (by omega) (by omega) (by omega) (by omega)
  case hi =>
    k_steps
    exact ⟨_, _, _, _, _, _, rfl, rfl, by simpa using (by assumption : IsRange _ _ _ _ _ _ _ _), by assumption, by assumption⟩
  case hJ => exact ⟨rfl, .nil⟩
  case turn =>
    rintro i t I oI C oC D m₂ ys _ h tk E' hlt ⟨rfl, hys⟩ hC hx F2 N2 off ne
    have hpk : StrsAre (kms_pick vb.toList none (some (0 + (i : Int)))).toArray.toList ((textM ps).take i) := by
      rw [List.toList_toArray, pickN]
      exact strs_take i hM
    have hw : (((textM ps).take i).map (·.length)).sum + ((textM ps).take i).length ≤ 1048576 := by
      have := sum_short (l := (textM ps).take i) (b := 3) fun x hx => hms x (List.mem_of_mem_take hx)
      have h9 : ((textM ps).take i).length ≤ 16 := by rw [List.length_take]; omega
      omega
    have hfl : ((Txt.join (Str.ofString "") ((textM ps).take i)).length : Int) < 9223372036854775808 := by
      rw [tjoin_cat]
      have := hcat i
      unfold lvN at this
      omega
    obtain ⟨ne1, ne2, ne3⟩ := ne
    k_steps
    have e : (Txt.join (Str.ofString "") ((textM ps).take i)).length = lvN (textM ps) i := by rw [tjoin_cat]; rfl
    rw [e]
    refine UEnd.intro ((tB, PySem.W.listOf vb 0) :: (tA, PySem.W.listOf va 0) :: (L + 1 + 1 + 1 + 1 + 1 + 1 + 1 + 1, o8) :: (L + 1 + 1 + 1 + 1 + 1 + 1 + 1, o7) :: (L + 1 + 1 + 1 + 1 + 1 + 1, o6) :: (L + 1 + 1 + 1 + 1 + 1, o5) :: (L + 1 + 1 + 1 + 1, o4) :: (L + 1 + 1 + 1, o3) :: (L + 1 + 1, o2) :: (L + 1, oM) :: (143, tabObj #[]) :: []) (by assumption) (by assumption) (by kcf_all) off trivial ⟨rfl, ?_⟩
    rw [List.range_succ, List.map_append]
    exact ints_snoc hys
  case done =>
    rintro D h tk ys _ ⟨rfl, hys⟩ hyl F2 N2 off
    simp only [List.forall_mem_cons, List.not_mem_nil, false_implies, implies_true, and_true] at off
    k_steps
    rename_i hy1 oL dL w0 hy2 lt0 wn hy3 ltn hy4 oW F3 N3 dW
    show wpAny _ _ (exec _ _) _ _ _
    refine law_b w mean mg mb g L fa cd base _ _ o4 oW oL D wn w0 ys.toArray ys.length 0 0 va.size _ (lvN (textM ps)) ((L + 1 + 1 + 1 + 1 + 1 + 1 + 1 + 1, o8) :: (L + 1 + 1 + 1 + 1 + 1 + 1 + 1, o7) :: (L + 1 + 1 + 1 + 1 + 1 + 1, o6) :: (L + 1 + 1 + 1 + 1 + 1, o5) :: (L + 1, oM) :: (tB, PySem.W.listOf vb 0) :: (tA, PySem.W.listOf va 0) :: (143, tabObj #[]) :: []) none _ _ B X T F3 (by rfl) (by omega) (news_sub N3 (by kcf_all)) d4 dW dL ?_ hys (by omega) (by omega) (by omega) ?_ ?_ ?_
    · simp only [List.forall_mem_cons, List.not_mem_nil, false_implies, implies_true, and_true]
      omega
    · simp only [List.cons_append, List.nil_append, List.forall_mem_cons, List.not_mem_nil, false_implies, implies_true, and_true]
      omega
    · simp only [List.cons_append, List.nil_append, List.forall_mem_cons, List.not_mem_nil, false_implies, implies_true, and_true]
      omega
    · intro h9 tk9 oN v9 wv kw wi dN hwin hdis F4 N4
      have N5 := news_sub (l' := (L + 1 + 1 + 1 + 1 + 1 + 1 + 1 + 1, o8) :: (L + 1 + 1 + 1 + 1 + 1 + 1 + 1, o7) :: (L + 1 + 1 + 1 + 1 + 1 + 1, o6) :: (L + 1 + 1 + 1 + 1 + 1, o5) :: (L + 1 + 1 + 1 + 1, oN) :: (L + 1 + 1 + 1, oW) :: (L + 1 + 1, oL) :: (L + 1, oM) :: (tB, PySem.W.listOf vb 0) :: (tA, PySem.W.listOf va 0) :: (143, tabObj #[]) :: (D, PySem.W.listOf ys.toArray ys.length) :: (wn, PySem.W.listOf wv.toArray kw) :: wi) N4 (by kcf_all)
      clear N4
      k_steps
      have S4 : Stand g L _ _ h9 := ⟨F4, N5⟩
      show wpAny _ _ (eval (Expr.ListComp _ _ _ _) _) _ _ _
      refine' comp_list (g := g) (L := L) (news := _) (fun _ => true) (fun v y => ∃ x t u, v = .str x t ∧ y = .str (Str.ofString "\\" ++ x) u) rfl tA va 0 ?clos ?cell ?kind ?names ?x ?hi ?hz S4 ?hl ?ht ?he ?hQ
      case clos => rfl
      case cell => decide +kernel
      case kind => rfl
      case names => decide +kernel
      case x => decide +kernel
      case hl => k_mem
      case hz => rw [sizeLine_eq]; omega
      case hi =>
        intro Q' hq
        k_steps
        exact hq
      case ht =>
        intro C i v s₃ m₃ E' hv hns hm S
        simp only [List.forIn_nil]
        exact wpAny_pure ⟨rfl, _, _, rfl, fun _ _ e => e⟩
      case he =>
        intro C4 i4 v s₃ m₃ E' hv hp hns hm S
        obtain ⟨F8, N8⟩ := S
        obtain ⟨x, tx, rfl, hx⟩ := str_mem hS hv
        have hx1 := textS_one ps x hx
        iterate 30 (try (first | (k_unfold; (try dsimp only)) | walk1 | (dsimp only; walk1)))
        exact ⟨_, _, rfl, fun _ _ e => e⟩
      case hQ =>
        intro D3 h3 tk3 ys3 k3 vs3 F5 N5 hne5 hvs5 hF5
        rw [List.filter_eq_self.mpr (fun _ _ => rfl), hvs5] at hF5
        have hst := strs_bs hS hF5
        have hw9 : (((textS ps).map fun x => Str.ofString "\\" ++ x).map (·.length)).sum + ((textS ps).map fun x => Str.ofString "\\" ++ x).length ≤ 1048576 := by
          have := sum_short (l := (textS ps).map fun x => Str.ofString "\\" ++ x) (b := 2) fun x hx => by
            obtain ⟨y, hy, rfl⟩ := List.mem_map.mp hx
            rw [app_len, textS_one ps y hy]
            exact Nat.le_of_ble_eq_true rfl
          rw [List.length_map] at this ⊢
          omega
        k_steps
        rename_i h10 F6 N6
        show wpAny _ _ (execs _ _) _ _ _
        exact hk h10 _ _ tA tB D wn va vb ys.toArray ys.length kw ps wv wi oM oL oW oN _ _ _ ⟨hS, hM, hp10, hq, hz, by omega, l2, hys, hwin, hdis, by omega, by omega, by omega, dM, dL, dW, ⟨_, dN⟩⟩ F6 (news_sub N6 fun q hq => .tail _ hq) rfl rfl rfl rfl
end
section
open PySem PySem.W PySem.Calls PyProof.Rows PySem.Spec
set_option maxHeartbeats 2000000
theorem lexer1_use {w : World} {mean : ExcName → Option Value} {mg mb : Str → Option Value} {more : List (Addr × Obj)} {x : Str} {tx : Tok} (hx : x.cps.size ≤ sizeLine) (hm : ∀ p ∈ more, p.1 ≠ 143)
    {dp un : Nat} {gd : Option (List Code)} {cn : Str} {cs : Scope} {a : Addr} {ccd : Value} {cl : List (Str × Addr)} {outer : List Env} {A₀ : Around} {base h₀ : Heap} {L : Addr} {m : Str → Option Value} {s : Shared} {Q E : Value → Shared → Prop}
    (B : Below A₀ base outer h₀) (F : Fr h₀ L s.heap m) (X : (K w.params).In h₀) (N : News h₀ L s.heap ((143, tabObj #[]) :: more)) (T : Top tq lz mean mg mb h₀) (hk : cs.kind = .function) (hd : dp + 80 < recursionLimit) (hu : un + 800 < cLine)
    (h : ∀ c oc v news h' tk', LexNew w x.cps.toList more c oc v news → (∀ q ∈ more, @LT.lt Nat _ q.1 c) → @LT.lt Nat _ 143 c → Fr h₀ L h' m → News h₀ L h' news → Q v { s with heap := h', toks := tk' }) :
    wpAny (model pw w) (ktrTop dp un gd cn cs L a ccd cl outer) (call (.ref 148) [.str x tx]) Q E s := by
  refine wpAny_call (lexer_c1 w mean mg mb x tx hx more hm dp un gd cn cs a ccd cl outer A₀ base h₀ L m s _ B F X N T hk hd hu ?_)
  rintro v' h' tk' news' ⟨c, oc, h1, h2, h3⟩ F' N'
  exact h c oc v' news' h' tk' h1 h2 h3 F' N'
local macro_rules | `(tactic| walk_at "call ref") => `(tactic| (k_here; refine stop_intro ?_))
local macro_rules | `(tactic| walk_at "exec While") => `(tactic| (k_here; refine stop_intro ?_))
noncomputable abbrev lwD : List Stmt := unw (x := [_, _, _, _, _, _, _, _, _]) (y := bodLaw.drop 10) (.refl _)
structure LawD (L c rw : Addr) (p : LP) (ps : List Int) (tA tB : Addr) (va vb : Array Value) (rest : List (Addr × Obj)) : Prop where
  hS : StrsAre va.toList (textS ps)
  hM : StrsAre vb.toList (textM ps)
  hp : ps.length = 10
  hq : ∀ n ∈ ps, 0 ≤ n ∧ n < 512
  hz : va.size = vb.size ∧ 10 ≤ va.size ∧ va.size ≤ 16
  h143 : @LT.lt Nat _ 143 L
  lA : @LT.lt Nat _ (L + 1 + 1 + 1 + 1 + 1 + 1 + 1 + 1) tA
  lB : @LT.lt Nat _ tA tB
  lC : @LT.lt Nat _ tB c
  lP : @LT.lt Nat _ tB p.cc
  pok : p.Ok
  pfar : p.Far
  pc : p.c = c
  lR : @LT.lt Nat _ p.pl rw
  lRc : @LT.lt Nat _ c rw
  r143 : ∀ q ∈ rest, @Ne Nat q.1 143
  rcell : ∀ q ∈ rest, @Ne Nat q.1 (L + 1 + 1 + 1 + 1 + 1 + 1 + 1) ∧ @Ne Nat q.1 (L + 1 + 1 + 1 + 1 + 1 + 1) ∧ @Ne Nat q.1 (L + 1 + 1 + 1 + 1 + 1) ∧ @Ne Nat q.1 (L + 1)
  rAB : ∀ q ∈ rest, @Ne Nat q.1 tA ∧ @Ne Nat q.1 tB
  rP : ∀ q ∈ rest, @LT.lt Nat _ q.1 p.cc ∧ @LT.lt Nat _ q.1 c
local macro_rules | `(tactic| walk_at "execs cons") => `(tactic| (k_here; (with_reducible show wpAny _ _ (execs (Stmt.While _ _ _ _ :: _) _) _ _ _); refine stop_intro ?_))
theorem law_c (w : World) (mean : ExcName → Option Value) (mg mb : Str → Option Value) (g : Heap) (L fa : Addr) (cd : Value) (base : Heap) (s : Shared) (m : Str → Option Value) (ps : List Int) (tA tB D wn : Addr) (va vb ysv : Array Value) (kD kw : Nat) (wv : List Value) (wi : List (Addr × Obj)) (oM oL oW oN o5 o6 o7 o8 : Obj) (fe : Int) (bare : Str) (tW tF tb : Tok) (Q : Flow → Shared → Prop) (E : Value → Shared → Prop)
    (B : Below callerA base [] g) (X : (K w.params).In g) (T : Top tq lz mean mg mb g) (H : LawC L ps tA tB D wn va vb ysv wv wi oM oL oW oN o5 o6 o7 o8) (F : Fr g L s.heap m)
    (N : News g L s.heap ((L + 1 + 1 + 1 + 1 + 1 + 1 + 1 + 1, o8) :: (L + 1 + 1 + 1 + 1 + 1 + 1 + 1, o7) :: (L + 1 + 1 + 1 + 1 + 1 + 1, o6) :: (L + 1 + 1 + 1 + 1 + 1, o5) :: (L + 1 + 1 + 1 + 1, oN) :: (L + 1 + 1 + 1, oW) :: (L + 1 + 1, oL) :: (L + 1, oM) :: (tB, PySem.W.listOf vb 0) :: (tA, PySem.W.listOf va 0) :: (143, tabObj #[]) :: (D, PySem.W.listOf ysv kD) :: (wn, PySem.W.listOf wv.toArray kw) :: wi)) (e1 : m (Str.ofString "signs") = some (.ref tA)) (e2 : m (Str.ofString "whole") = some (.int va.size tW)) (e3 : m (Str.ofString "feeds") = some (.int fe tF)) (e4 : m (Str.ofString "bare") = some (.str bare tb)) (hbl : bare.length ≤ 32)
    (d5 : o5.data = .cell none) (d6 : o6.data = .cell none) (d7 : o7.data = .cell none) (d8 : o8.data = .cell none)
    (hk : ∀ h tk c rw (p : LP) t1 kr kp tn us k oX oR oH tH, LawD L c rw p ps tA tB va vb ((L + 1 + 1 + 1 + 1 + 1 + 1 + 1 + 1, o8) :: (L + 1 + 1 + 1 + 1, oN) :: (L + 1 + 1 + 1, oW) :: (L + 1 + 1, oL) :: (D, PySem.W.listOf ysv kD) :: (wn, PySem.W.listOf wv.toArray kw) :: wi) → oM.data = .cell (some (.ref tB)) → oX.data = .cell (some (.ref p.x)) → oR.data = .cell (some (.ref rw)) → oH.data = .cell (some (.int 1 tH)) → SV us (chs (Str.ofString " \r\n\t" ++ bare ++ Str.ofString " \x0b\x0b \"z\\\"\\\n#\n\"\t\"" ++ Txt.join (Str.ofString "") (textS ps)).cps.toList) → Fr g L h m →
      News g L h ((L + 1 + 1 + 1 + 1 + 1 + 1 + 1, oH) :: (L + 1 + 1 + 1 + 1 + 1 + 1, oR) :: (L + 1 + 1 + 1 + 1 + 1, oX) :: (L + 1, oM) :: (rw, PySem.W.listOf #[Value.int 1 t1] kr) :: (tB, PySem.W.listOf vb 0) :: (tA, PySem.W.listOf va 0) :: (143, tab1 c) :: (p.pl, PySem.W.listOf #[] kp) :: (lexL w p 1 tn us k ++ ((L + 1 + 1 + 1 + 1 + 1 + 1 + 1 + 1, o8) :: (L + 1 + 1 + 1 + 1, oN) :: (L + 1 + 1 + 1, oW) :: (L + 1 + 1, oL) :: (D, PySem.W.listOf ysv kD) :: (wn, PySem.W.listOf wv.toArray kw) :: wi))) → wpAny (model pw w) (lA L fa cd) (execs lwD (lenv L fa cd)) Q E { s with heap := h, toks := tk }) :
    wpAny (model pw w) (lA L fa cd) (execs lwC (lenv L fa cd)) Q E s := by
  have hz := H.hz
  have hS := H.hS
  have hts := textS_len H.hp
  have hw9 : ((textS ps).map (·.length)).sum + (textS ps).length ≤ 1048576 := by
    have := sum_short (l := textS ps) (b := 1) fun x hx => Nat.le_of_eq (textS_one ps x hx)
    omega
  have hjl : (Txt.join (Str.ofString "") (textS ps)).length ≤ 16 := by
    rw [tjoin_cat, cat_len]
    have := sum_short (l := textS ps) (b := 1) fun x hx => Nat.le_of_eq (textS_one ps x hx)
    omega
  have hlA := H.lA
  have hlB := H.lB
  have hltn := H.ltn
  have h143 := H.h143
  obtain ⟨z1, z2, z3, z4, z5, z6, z7, z8, z9, z10, z11, z12⟩ := H.nD
  have hwi : ∀ q ∈ wi, @Ne Nat q.1 143 := fun q hq e => H.hdis q hq (143, tabObj #[]) (by k_mem) e.symm
  k_steps
  show wpAny _ _ (call _ _) _ _ _
  refine lexer1_use (more := (L + 1 + 1 + 1 + 1 + 1 + 1 + 1 + 1, o8) :: (L + 1 + 1 + 1 + 1 + 1 + 1 + 1, o7) :: (L + 1 + 1 + 1 + 1 + 1 + 1, o6) :: (L + 1 + 1 + 1 + 1 + 1, o5) :: (L + 1 + 1 + 1 + 1, oN) :: (L + 1 + 1 + 1, oW) :: (L + 1 + 1, oL) :: (L + 1, oM) :: (tB, PySem.W.listOf vb 0) :: (tA, PySem.W.listOf va 0) :: (D, PySem.W.listOf ysv kD) :: (wn, PySem.W.listOf wv.toArray kw) :: wi) ?hx ?hm B F X (news_sub N (by kcf_all)) T rfl (by k_room) (by k_units) ?_
  case hx =>
    rw [sizeLine_eq]
    show (_ : Str).length ≤ _
    rw [app_len, app_len, app_len]
    have x1 : (Str.ofString " \r\n\t").length = 4 := by kernel_rfl
    have x2 : (Str.ofString " \x0b\x0b \"z\\\"\\\n#\n\"\t\"").length = 15 := by kernel_rfl
    rw [x1, x2]
    omega
  case hm =>
    simp only [List.forall_mem_cons]
    refine ⟨?_, ?_, ?_, ?_, ?_, ?_, ?_, ?_, ?_, ?_, ?_, ?_, hwi⟩ <;> (show @Ne Nat _ _; omega)
  intro c oc v news h1 tk1 hnew hc1 hc2 F1 N1
  obtain ⟨p, kp, lx, rfl, rfl, hlex, hok, hfar, hpc, hpo, hfresh⟩ := hnew
  obtain ⟨n1, tn1, us, k1, rfl, hv, hT⟩ := hlex
  have hn1 : n1 = 1 := by omega
  subst hn1
  have hcc := (hfresh p.cc (by simp [LP.fresh])).1
  have hcc' := (hfresh p.cc (by simp [LP.fresh])).2
  obtain ⟨q1, q2, q3, q4, q5, q6, q7, q8, q9, q10, q11⟩ := id hfar
  have hpc' : p.c = c := hpc
  obtain ⟨more2, hm2⟩ : ∃ l, l = (143, tab1 c) :: (p.pl, PySem.W.listOf #[] kp) :: (lexL w p 1 tn1 us k1 ++ (L + 1, oM) :: (tB, PySem.W.listOf vb 0) :: (tA, PySem.W.listOf va 0) :: (L + 1 + 1 + 1 + 1 + 1 + 1 + 1 + 1, o8) :: (L + 1 + 1 + 1 + 1, oN) :: (L + 1 + 1 + 1, oW) :: (L + 1 + 1, oL) :: (D, PySem.W.listOf ysv kD) :: (wn, PySem.W.listOf wv.toArray kw) :: wi) := ⟨_, rfl⟩
  have hlo : ∀ q ∈ more2, @Ne Nat q.1 (L + 1 + 1 + 1 + 1 + 1) ∧ @Ne Nat q.1 (L + 1 + 1 + 1 + 1 + 1 + 1) ∧ @Ne Nat q.1 (L + 1 + 1 + 1 + 1 + 1 + 1 + 1) := by
    have b8 := hcc (L + 1 + 1 + 1 + 1 + 1 + 1 + 1 + 1, o8) (by k_mem)
    have c8 := hc1 (L + 1 + 1 + 1 + 1 + 1 + 1 + 1 + 1, o8) (by k_mem)
    rw [hm2]
    simp only [List.cons_append, List.nil_append, List.forall_mem_cons]
    refine ⟨?_, ?_, ?_, ?_, ?_, ?_, ?_, ?_, ?_, ?_, ?_, ?_, ?_, ?_, ?_, ?_, ?_, ?_, ?_, ?_⟩
    iterate 19 (refine ⟨?_, ?_, ?_⟩ <;> (show @Ne Nat _ _; first | omega | (rw [hpc]; omega)))
    intro q hq
    refine ⟨fun e => ?_, fun e => ?_, fun e => ?_⟩
    · exact H.hdis q hq (L + 1 + 1 + 1 + 1 + 1, o5) (by k_mem) e.symm
    · exact H.hdis q hq (L + 1 + 1 + 1 + 1 + 1 + 1, o6) (by k_mem) e.symm
    · exact H.hdis q hq (L + 1 + 1 + 1 + 1 + 1 + 1 + 1, o7) (by k_mem) e.symm
  have N2 : News g L h1 ((L + 1 + 1 + 1 + 1 + 1 + 1 + 1, o7) :: (L + 1 + 1 + 1 + 1 + 1 + 1, o6) :: (L + 1 + 1 + 1 + 1 + 1, o5) :: more2) := by
    rw [hm2]
    exact news_sub N1 (by kcf_all)
  clear N1
  have w5 : ∀ q ∈ more2, q.1 ≠ L + 1 + 1 + 1 + 1 + 1 := fun q hq => (hlo q hq).1
  have w6 : ∀ q ∈ more2, q.1 ≠ L + 1 + 1 + 1 + 1 + 1 + 1 := fun q hq => (hlo q hq).2.1
  have w7 : ∀ q ∈ more2, q.1 ≠ L + 1 + 1 + 1 + 1 + 1 + 1 + 1 := fun q hq => (hlo q hq).2.2
  k_steps
  rename_i hy1 oX dX tk2 rw hy2 lrw hy3 oR dR hy4 oH F9 N9 dH
  show wpAny _ _ (execs _ _) _ _ _
  have b8 := hcc (L + 1 + 1 + 1 + 1 + 1 + 1 + 1 + 1, o8) (by k_mem)
  have c8 := hc1 (L + 1 + 1 + 1 + 1 + 1 + 1 + 1 + 1, o8) (by k_mem)
  have hM2 : ∀ q ∈ more2, @LT.lt Nat _ q.1 rw := ktn_ltOf lrw.2.2.2
  have hlR : @LT.lt Nat _ p.pl rw := hM2 (p.pl, _) (by rw [hm2]; exact .tail _ (.head _))
  have hlRc : @LT.lt Nat _ c rw := hM2 (c, p.oc) (by rw [hm2, ← hpc]; k_mem)
  refine hk _ _ c rw p tk2 0 kp tn1 us k1 oX oR oH _ ⟨hS, H.hM, H.hp, H.hq, hz, h143, hlA, hlB, hc1 (tB, PySem.W.listOf vb 0) (by k_mem), hcc (tB, PySem.W.listOf vb 0) (by k_mem), hok, hfar, hpc, hlR, hlRc, ?_, ?_, ?_, ?_⟩ H.dM dX dR dH hv F9 (news_sub N9 ?_)
  · simp only [List.forall_mem_cons]
    refine ⟨?_, ?_, ?_, ?_, ?_, ?_, hwi⟩ <;> omega
  · simp only [List.forall_mem_cons]
    refine ⟨by omega, by omega, by omega, by omega, by omega, by omega, fun q hq => ⟨fun e => ?_, fun e => ?_, fun e => ?_, fun e => ?_⟩⟩
    · exact H.hdis q hq (L + 1 + 1 + 1 + 1 + 1 + 1 + 1, o7) (by k_mem) e.symm
    · exact H.hdis q hq (L + 1 + 1 + 1 + 1 + 1 + 1, o6) (by k_mem) e.symm
    · exact H.hdis q hq (L + 1 + 1 + 1 + 1 + 1, o5) (by k_mem) e.symm
    · exact H.hdis q hq (L + 1, oM) (by k_mem) e.symm
  · simp only [List.forall_mem_cons]
    refine ⟨by omega, by omega, by omega, by omega, by omega, by omega, fun q hq => ⟨fun e => ?_, fun e => ?_⟩⟩
    · exact H.hdis q hq (tA, PySem.W.listOf va 0) (by k_mem) e.symm
    · exact H.hdis q hq (tB, PySem.W.listOf vb 0) (by k_mem) e.symm
  · intro q hq
    refine ⟨hcc q ?_, hc1 q ?_⟩ <;> (revert q hq; kcf_all)
  · rw [hm2]
    kcf_all
end
section
open PySem PySem.W PySem.Calls PyProof.Rows PySem.Spec
set_option maxHeartbeats 2000000
noncomputable abbrev lxA (p : LP) : List Addr := [p.x, p.d, p.y, p.dy, p.f, p.c, p.cc, p.sl]
theorem LexAt.addr {w : World} {p : LP} {T : Int} {cs : List Nat} {lx : List (Addr × Obj)} (h : LexAt w p T cs lx) : lx.map (·.1) = lxA p := by
  obtain ⟨n, tn, vs, k, rfl, _, _⟩ := h
  rfl
section
variable {w : World} {mean : ExcName → Option Value} {mg mb : Str → Option Value} {dp un : Nat} {gd : Option (List Code)} {cn : Str} {cs₀ : Scope} {a : Addr} {ccd : Value} {cl : List (Str × Addr)} {outer : List Env} {A₀ : Around} {base h₀ : Heap} {L : Addr} {m : Str → Option Value} {s : Shared} {Q E : Value → Shared → Prop}
theorem lexer2_use {more : List (Addr × Obj)} {x : Str} {tx : Tok} {c : Addr} {oc : Obj} {ocv : Array Value} {tq9 : Tok} (hx : x.cps.size ≤ sizeLine) (hoc : oc.data = .fields ocv) (hoc1 : ocv[1]? = some (.str (Str.ofString "_law_lexer.<locals>.<lambda>") tq9)) (hm : ∀ p ∈ more, p.1 ≠ 143)
    (B : Below A₀ base outer h₀) (F : Fr h₀ L s.heap m) (X : (K w.params).In h₀) (N : News h₀ L s.heap ((143, tab1 c) :: (c, oc) :: more)) (T : Top tq lz mean mg mb h₀) (hk : cs₀.kind = .function) (hd : dp + 80 < recursionLimit) (hu : un + 800 < cLine)
    (h : ∀ v news h' tk', LexNew w x.cps.toList ((c, oc) :: more) c oc v news → Fr h₀ L h' m → News h₀ L h' news → Q v { s with heap := h', toks := tk' }) :
    wpAny (model pw w) (ktrTop dp un gd cn cs₀ L a ccd cl outer) (call (.ref 148) [.str x tx]) Q E s := by
  refine wpAny_call (lexer_c2 w mean mg mb x tx hx c oc ocv tq9 hoc hoc1 more hm dp un gd cn cs₀ a ccd cl outer A₀ base h₀ L m s _ B F X N T hk hd hu ?_)
  intro v' h' tk' news' h1 F' N'
  exact h v' news' h' tk' h1 F' N'
theorem keep_rest {h h' : Heap} {all part part' rest : List (Addr × Obj)} (N : News h₀ L h all) (N' : News h₀ L h' part') (G : GSub h h' (part.map (·.1))) (hr : ∀ q ∈ rest, q ∈ all ∧ q.1 ∉ part.map (·.1)) : News h₀ L h' (part' ++ rest) := fun q hq => by
  rcases List.mem_append.mp hq with hq | hq
  · exact N' q hq
  · have z := N q (hr q hq).1
    exact ⟨G _ _ z.1 (hr q hq).2, z.2⟩
theorem word_use {all rest : List (Addr × Obj)} {p : LP} {T9 : Int} {cs : List Nat} {lx : List (Addr × Obj)} {k2 : Nat} (C9 : HasCode) (P : p.Ok) (O : p.Far) (hl : LexAt w p T9 cs lx) (ho : okCs cs) (hz : cs.length + 2 ≤ sizeLine)
    (B : Below A₀ base outer h₀) (F : Fr h₀ L s.heap m) (X : (K w.params).In h₀) (N : News h₀ L s.heap all) (hs : ∀ q ∈ (p.pl, PySem.W.listOf #[] k2) :: lx, q ∈ all) (hr : ∀ q ∈ rest, q ∈ all ∧ q.1 ∉ p.pl :: lxA p) (T : Top tq lz mean mg mb h₀) (hk : cs₀.kind = .function) (hd : dp + 40 < recursionLimit) (hu : un + 400 < cLine)
    (h : ∀ lx' t h' tk', LexAt w p T9 (tokR cs).2 lx' → Fr h₀ L h' m → News h₀ L h' ((p.pl, PySem.W.listOf #[] k2) :: (lx' ++ rest)) → Q (.str (tokR cs).1 t) { s with heap := h', toks := tk' }) :
    wpAny (model pw w) (ktrTop dp un gd cn cs₀ L a ccd cl outer) (call (.ref 42) [.ref p.x]) Q E s := by
  refine wpAny_call (get_word w mean mg mb p T9 cs lx C9 P O hl k2 ho hz dp un gd cn cs₀ a ccd cl outer A₀ base h₀ L m s _ B F X (news_sub N hs) T hk hd hu ?_)
  rintro v' h' tk' news' ⟨lx', t, rfl, rfl, hl'⟩ F' N' G
  refine h lx' t h' tk' hl' F' (keep_rest (part := (p.pl, PySem.W.listOf #[] k2) :: lx) N N' G fun q hq => ⟨(hr q hq).1, ?_⟩)
  rw [List.map_cons, hl.addr]
  exact (hr q hq).2
theorem pop_use {all rest : List (Addr × Obj)} {p : LP} {T9 : Int} {cs : List Nat} {lx : List (Addr × Obj)} {v : Value} {vs : List Value} {k2 : Nat} (C9 : HasCode) (O : p.Far) (hl : LexAt w p T9 cs lx) (hz : (v :: vs).length ≤ sizeLine)
    (B : Below A₀ base outer h₀) (F : Fr h₀ L s.heap m) (X : (K w.params).In h₀) (N : News h₀ L s.heap all) (hs : ∀ q ∈ (p.pl, PySem.W.listOf (v :: vs).toArray k2) :: lx, q ∈ all) (hr : ∀ q ∈ rest, q ∈ all ∧ q.1 ∉ p.pl :: lxA p) (T : Top tq lz mean mg mb h₀) (hk : cs₀.kind = .function) (hd : dp + 40 < recursionLimit) (hu : un + 400 < cLine)
    (h : ∀ h' tk', Fr h₀ L h' m → News h₀ L h' ((p.pl, PySem.W.listOf vs.toArray (k2 + 1)) :: (lx ++ rest)) → Q v { s with heap := h', toks := tk' }) :
    wpAny (model pw w) (ktrTop dp un gd cn cs₀ L a ccd cl outer) (call (.ref 42) [.ref p.x]) Q E s := by
  refine wpAny_call (get_push w mean mg mb p T9 cs lx C9 O hl v vs k2 hz dp un gd cn cs₀ a ccd cl outer A₀ base h₀ L m s _ B F X (news_sub N hs) T hk hd hu ?_)
  rintro v' h' tk' news' ⟨rfl, rfl⟩ F' N' G
  refine h h' tk' F' (keep_rest (part := (p.pl, PySem.W.listOf (v' :: vs).toArray k2) :: lx) N N' G fun q hq => ⟨(hr q hq).1, ?_⟩)
  rw [List.map_cons, hl.addr]
  exact (hr q hq).2
theorem push_use {all rest : List (Addr × Obj)} {p : LP} {T9 : Int} {cs : List Nat} {lx : List (Addr × Obj)} {v : Value} {vs : List Value} {k2 : Nat} (C9 : HasCode) (O : p.Far) (hl : LexAt w p T9 cs lx) (hz : (v :: vs).length ≤ sizeLine)
    (B : Below A₀ base outer h₀) (F : Fr h₀ L s.heap m) (X : (K w.params).In h₀) (N : News h₀ L s.heap all) (hs : ∀ q ∈ (p.pl, PySem.W.listOf vs.toArray k2) :: lx, q ∈ all) (hr : ∀ q ∈ rest, q ∈ all ∧ q.1 ∉ p.pl :: lxA p) (T : Top tq lz mean mg mb h₀) (hk : cs₀.kind = .function) (hd : dp + 40 < recursionLimit) (hu : un + 400 < cLine)
    (h : ∀ h' tk', Fr h₀ L h' m → News h₀ L h' ((p.pl, PySem.W.listOf (vs ++ [v]).toArray (k2 + 1)) :: (lx ++ rest)) → Q .none { s with heap := h', toks := tk' }) :
    wpAny (model pw w) (ktrTop dp un gd cn cs₀ L a ccd cl outer) (call (.ref 49) [.ref p.x, v]) Q E s := by
  refine wpAny_call (push_c w mean mg mb p T9 cs lx C9 O hl v vs k2 hz dp un gd cn cs₀ a ccd cl outer A₀ base h₀ L m s _ B F X (news_sub N hs) T hk hd hu ?_)
  rintro v' h' tk' news' ⟨rfl, rfl⟩ F' N' G
  refine h h' tk' F' (keep_rest (part := (p.pl, PySem.W.listOf vs.toArray k2) :: lx) N N' G fun q hq => ⟨(hr q hq).1, ?_⟩)
  rw [List.map_cons, hl.addr]
  exact (hr q hq).2
theorem prep_use {all : List (Addr × Obj)} {x : Str} {tx : Tok} (hx : x.cps.size ≤ 1000)
    (B : Below A₀ base outer h₀) (F : Fr h₀ L s.heap m) (X : (K w.params).In h₀) (N : News h₀ L s.heap all) (T : Top tq lz mean mg mb h₀) (hk : cs₀.kind = .function) (hd : dp + 80 < recursionLimit) (hu : un + 800 < cLine)
    (h : ∀ t h' tk', Fr h₀ L h' m → News h₀ L h' all → Q (.str (Txt.join (Str.ofString "") (prepL w.params x.cps.toList)) t) { s with heap := h', toks := tk' }) :
    wpAny (model pw w) (ktrTop dp un gd cn cs₀ L a ccd cl outer) (call (.ref 181) [.str x tx]) Q E s := by
  refine wpAny_call (prep_c w mean mg mb all x tx hx dp un gd cn cs₀ a ccd cl outer A₀ base h₀ L m s _ B F X N T hk hd hu ?_)
  rintro v' h' tk' news' ⟨rfl, t, rfl⟩ F' N'
  exact h t h' tk' F' N'
theorem ne_news {h : Heap} {all : List (Addr × Obj)} {b c : Addr} {o o' : Obj} (N : News h₀ L h all) (h1 : (b, o) ∈ all) (h2 : (c, o') ∈ all) (hd : o.data ≠ o'.data) : @Ne Nat b c := by
  intro e
  have e1 := (N _ h1).1
  have e2 := (N _ h2).1
  have e' : b = c := e
  rw [e'] at e1
  have e3 : some o = some o' := e1.symm.trans e2
  cases e3
  exact hd rfl
end
end
section
open PySem PySem.W PySem.Calls PyProof.Rows PySem.Spec
set_option maxHeartbeats 2000000
local macro_rules | `(tactic| kpc_none) => `(tactic| grind)

theorem pickK (l : List Value) (i : Nat) : kms_pick l none (some (i : Int)) = l.take i := by
  have := pickN l i
  rwa [show (0 : Int) + (i : Int) = (i : Int) by omega] at this
noncomputable abbrev wT : PySem.Expr := unw (x := .Compare _ _ _ _) (y := (match lwD with | .While t _ _ _ :: _ => t | _ => default)) (.refl _)
noncomputable abbrev wB : List Stmt := unw (x := [_, _, _, _, _, _]) (y := (match lwD with | .While _ b _ _ :: _ => b | _ => [])) (.refl _)
noncomputable abbrev wB1 : Stmt := unw (x := .Assign _ _ _) (y := wB.getD 1 (.Pass default)) (.refl _)
noncomputable abbrev frontCs (ps : List Int) (k : Nat) : List Nat := (Str.ofString "\"" ++ Txt.join (Str.ofString "") ((textS ps).take k)).cps.toList
local macro_rules | `(tactic| walk_at "call ref") => `(tactic| (k_here; refine stop_intro ?_))
theorem law_read (w : World) (mean : ExcName → Option Value) (mg mb : Str → Option Value) (g : Heap) (L fa : Addr) (cd : Value) (base : Heap) (s : Shared) (m : Str → Option Value) (ps : List Int) (tA c : Addr) (va : Array Value) (oc : Obj) (ocv : Array Value) (tq9 : Tok) (more : List (Addr × Obj)) (k : Nat) (tk9 : Tok) (Q : Flow → Shared → Prop) (E : Value → Shared → Prop)
    (B : Below callerA base [] g) (X : (K w.params).In g) (T : Top tq lz mean mg mb g) (C7 : CodeHd g 147 143) (hS : StrsAre va.toList (textS ps)) (hva : va.size ≤ 16) (hoc : oc.data = .fields ocv) (hoc1 : ocv[1]? = some (.str (Str.ofString "_law_lexer.<locals>.<lambda>") tq9))
    (F : Fr g L s.heap m) (N : News g L s.heap ((tA, PySem.W.listOf va 0) :: (143, tab1 c) :: (c, oc) :: more)) (e1 : m (Str.ofString "signs") = some (.ref tA)) (e2 : m (Str.ofString "front") = some (.int (k : Int) tk9))
    (hm : ∀ q ∈ more, @Ne Nat q.1 143) (hmc : ∀ q ∈ more, @Ne Nat q.1 c) (hA1 : @Ne Nat tA 143) (hA2 : @Ne Nat tA c) (hc143 : @Ne Nat 143 c) (hok : okCs (frontCs ps k)) (htl : (tokR (frontCs ps k)).1.cps.size ≤ 1000)
    (hdone : ∀ h tk t, Fr g L h (fun y => if y = Str.ofString "read" then some (.str (Txt.join (Str.ofString "") (prepL w.params (tokR (frontCs ps k)).1.cps.toList)) t) else m y) → News g L h ((tA, PySem.W.listOf va 0) :: (143, tab1 c) :: (c, oc) :: more) → Q .next { s with heap := h, toks := tk }) :
    wpAny (model pw w) (lA L fa cd) (exec wB1 (lenv L fa cd)) Q E s := by
  have hpk : StrsAre (kms_pick va.toList none (some (k : Int))).toArray.toList ((textS ps).take k) := by
    rw [List.toList_toArray, pickK]
    exact strs_take k hS
  have hlk : ((textS ps).take k).length ≤ 16 := by
    have := strs_len hS
    rw [Array.length_toList] at this
    rw [List.length_take]; omega
  have hw9 : (((textS ps).take k).map (·.length)).sum + ((textS ps).take k).length ≤ 1048576 := by
    have := sum_short (l := (textS ps).take k) (b := 1) fun x hx => Nat.le_of_eq (textS_one ps x (List.mem_of_mem_take hx))
    omega
  have hjl : (Txt.join (Str.ofString "") ((textS ps).take k)).length ≤ 16 := by
    rw [tjoin_cat, cat_len]
    have := sum_short (l := (textS ps).take k) (b := 1) fun x hx => Nat.le_of_eq (textS_one ps x (List.mem_of_mem_take hx))
    omega
  k_steps
  rename_i dS hS9 fS nS lS t1 tk1 t2 k1 hl9
  show wpAny _ _ (call _ _) _ _ _
  have hq1 : (Str.ofString "\"").length = 1 := by kernel_rfl
  have hcl : (frontCs ps k).length ≤ 17 := by
    show ((Str.ofString "\"" ++ Txt.join (Str.ofString "") ((textS ps).take k)).cps.toList).length ≤ 17
    rw [Array.length_toList]
    show (Str.ofString "\"" ++ Txt.join (Str.ofString "") ((textS ps).take k)).length ≤ 17
    rw [app_len, hq1]; omega
  refine lexer2_use (more := (tA, PySem.W.listOf va 0) :: more) ?hx hoc hoc1 ?hm B fS X (news_sub nS (by kcf_all)) T rfl (by k_room) (by k_units) ?_
  case hx =>
    rw [sizeLine_eq]
    show (_ : Str).length ≤ _
    rw [app_len, hq1]; omega
  case hm => exact List.forall_mem_cons.mpr ⟨hA1, hm⟩
  intro v news h1 tk3 hnew F1 N1
  obtain ⟨p, kp, lx, rfl, rfl, hlex, hok2, hfar, hpc, hpo, hfresh⟩ := hnew
  obtain ⟨n1, tn1, us, k2, rfl, hv, hT⟩ := id hlex
  have fr : ∀ q ∈ (tA, PySem.W.listOf va 0) :: (143, tab1 c) :: more, q.1 ∉ p.pl :: lxA p := by
    have hc1 : ∀ q ∈ (tA, PySem.W.listOf va 0) :: (143, tab1 c) :: more, ∀ b ∈ p.fresh, @LT.lt Nat _ q.1 b := by
      intro q hq b hb
      have := hfresh b hb
      rcases List.mem_cons.mp hq with rfl | hq
      · exact this.1 _ (.tail _ (.head _))
      · rcases List.mem_cons.mp hq with rfl | hq
        · exact this.2
        · exact this.1 q (.tail _ (.tail _ hq))
    have hc2 : ∀ q ∈ (tA, PySem.W.listOf va 0) :: (143, tab1 c) :: more, @Ne Nat q.1 c := by
      refine List.forall_mem_cons.mpr ⟨hA2, List.forall_mem_cons.mpr ⟨?_, hmc⟩⟩
      exact hc143
    intro q hq hb
    have z1 := hc1 q hq
    have z2 := hc2 q hq
    simp only [List.mem_cons, List.not_mem_nil, or_false] at hb
    rcases hb with e | e | e | e | e | e | e | e | e
    · exact absurd e (Nat.ne_of_lt (z1 p.pl (by simp [LP.fresh])))
    · exact absurd e (Nat.ne_of_lt (z1 p.x (by simp [LP.fresh])))
    · exact absurd e (Nat.ne_of_lt (z1 p.d (by simp [LP.fresh])))
    · exact absurd e (Nat.ne_of_lt (z1 p.y (by simp [LP.fresh])))
    · exact absurd e (Nat.ne_of_lt (z1 p.dy (by simp [LP.fresh])))
    · exact absurd e (Nat.ne_of_lt (z1 p.f (by simp [LP.fresh])))
    · rw [hpc] at e; exact z2 e
    · exact absurd e (Nat.ne_of_lt (z1 p.cc (by simp [LP.fresh])))
    · exact absurd e (Nat.ne_of_lt (z1 p.sl (by simp [LP.fresh])))
  k_steps
  show wpAny _ _ (call (.ref 42) [.ref p.x]) _ _ _
  refine word_use (rest := (tA, PySem.W.listOf va 0) :: (143, tab1 c) :: more) (k2 := kp) ⟨g, C7⟩ hok2 hfar hlex hok (by rw [sizeLine_eq]; have := hcl; show (frontCs ps k).length + 2 ≤ _; omega) B F1 X N1 (by kcf_all) (fun q hq => ⟨?_, fr q hq⟩) T rfl (by k_room) (by k_units) ?_
  · revert q hq; kcf_all
  intro lx' t3 h3 tk4 hl3 F3 N3
  k_steps
  show wpAny _ _ (call (.ref 181) _) _ _ _
  refine prep_use htl B F3 X N3 T rfl (by k_room) (by k_units) ?_
  intro t4 h4 tk5 F4 N4
  k_steps
  rename_i h5 F5 N5
  obtain ⟨n3, tn3, us3, k3, rfl, hv3, hT3⟩ := id hl3
  refine hdone h5 _ _ F5 (news_sub N5 ?_)
  rw [← hpc, ← hpo]
  kcf_all
end
section
open PySem PySem.W PySem.Calls PyProof.Rows PySem.Spec
set_option maxHeartbeats 2000000
local macro_rules | `(tactic| kpc_none) => `(tactic| grind)

noncomputable abbrev wB3 : Stmt := unw (x := .While _ _ _ _) (y := wB.getD 3 (.Pass default)) (.refl _)
local macro_rules | `(tactic| walk_at "call ref") => `(tactic| (k_here; k_dflt (refine' pure_useY (sub_y _ _ _ _ _ _ _ _ _) (by k_asm) (by k_asm) (by k_asm) (by k_asm) (by k_asm) rfl (by k_room) (by k_units) ?_; k_whole); intro v' h' tk' hok F' N' G'; (obtain ⟨t', he'⟩ := hok); subst he'))
local macro_rules | `(tactic| walk_at "call ref") => `(tactic| (k_here; k_dflt (refine' pure_useY (lt_y _ _ _ _ _ _ _ _ _) (by k_asm) (by k_asm) (by k_asm) (by k_asm) (by k_asm) rfl (by k_room) (by k_units) ?_; k_whole); intro v' h' tk' hok F' N' G'; subst hok))
theorem ints_cons {vs : List Value} {n : Int} {ns : List Int} (h : IntsAre vs (n :: ns)) : ∃ t vs', vs = Value.int n t :: vs' ∧ IntsAre vs' ns := by
  cases h with
  | cons _ t h => exact ⟨t, _, rfl, h⟩
noncomputable def pushI (r : Nat → Nat) (a n : Nat) : List Int := (List.range' (a + 1) n).map (lineI r)
inductive RInv (w : World) (p : LP) (L : Addr) (oX : Obj) (n1 : Int) (tn1 : Tok) (us : List Value) (k1 : Nat) (more : List (Addr × Obj)) (hI kk : Nat) (r : Nat → Nat) (lvv : Nat) (m : Str → Option Value) (k : Nat) (m' : Str → Option Value) (nx : List (Addr × Obj)) : Prop
  | mk (oH' : Obj) (tH' : Tok) (pv' : List Value) (kp' hI' : Nat) (q0 : nx = (L + 1 + 1 + 1 + 1 + 1 + 1 + 1, oH') :: (L + 1 + 1 + 1 + 1 + 1, oX) :: (p.pl, PySem.W.listOf pv'.toArray kp') :: (lexL w p n1 tn1 us k1 ++ more)) (q1 : hI ≤ hI') (q2 : hI' ≤ kk) (q3 : (∀ i, hI ≤ i → i < hI' → r i < lvv)) (q4 : oH'.data = .cell (some (.int (r hI' : Int) tH'))) (q5 : IntsAre pv' (pushI r hI' (kk - hI'))) (q6 : (∀ z, z ≠ Str.ofString "part" → m' z = m z)) (q7 : k = kk - hI') : RInv w p L oX n1 tn1 us k1 more hI kk r lvv m k m' nx
theorem law_inner (w : World) (mean : ExcName → Option Value) (mg mb : Str → Option Value) (g : Heap) (L fa : Addr) (cd : Value) (base : Heap) (s : Shared) (m : Str → Option Value) (p : LP) (T9 : Int) (cs : List Nat) (lx more : List (Addr × Obj)) (oX oH : Obj) (pv : List Value) (kp : Nat) (r : Nat → Nat) (kk hI lvv : Nat) (Rd : Str) (tR tH : Tok) (Q : Flow → Shared → Prop) (E : Value → Shared → Prop)
    (B : Below callerA base [] g) (X : (K w.params).In g) (T : Top tq lz mean mg mb g) (C7 : CodeHd g 147 143) (F : Fr g L s.heap m)
    (N : News g L s.heap ((L + 1 + 1 + 1 + 1 + 1 + 1 + 1, oH) :: (L + 1 + 1 + 1 + 1 + 1, oX) :: (p.pl, PySem.W.listOf pv.toArray kp) :: (lx ++ more)))
    (e1 : m (Str.ofString "read") = some (.str Rd tR)) (hR : Rd.length = lvv) (hl48 : lvv ≤ 48) (dH : oH.data = .cell (some (.int (r hI : Int) tH))) (dX : oX.data = .cell (some (.ref p.x))) (hl : LexAt w p T9 cs lx) (O : p.Far)
    (hpv : IntsAre pv (pushI r hI (kk - hI))) (hIk : hI ≤ kk) (hkk : kk ≤ 100) (hlv : lvv ≤ r kk) (hpos : ∀ i, i ≤ kk → 1 ≤ r i)
    (q1 : @LT.lt Nat _ (L + 1 + 1 + 1 + 1 + 1 + 1 + 1) p.cc) (q2 : @LT.lt Nat _ (L + 1 + 1 + 1 + 1 + 1 + 1 + 1) p.c) (hm7 : ∀ q ∈ more, @Ne Nat q.1 (L + 1 + 1 + 1 + 1 + 1 + 1 + 1)) (hmP : ∀ q ∈ more, q.1 ∉ p.pl :: lxA p)
    (hdone : ∀ h tk m' oH' tH' pv' kp' hI', hI ≤ hI' → hI' ≤ kk → lvv ≤ r hI' → (∀ i, hI ≤ i → i < hI' → r i < lvv) → oH'.data = .cell (some (.int (r hI' : Int) tH')) → IntsAre pv' (pushI r hI' (kk - hI')) → (∀ z, z ≠ Str.ofString "part" → m' z = m z) → Fr g L h m' →
      News g L h ((L + 1 + 1 + 1 + 1 + 1 + 1 + 1, oH') :: (L + 1 + 1 + 1 + 1 + 1, oX) :: (p.pl, PySem.W.listOf pv'.toArray kp') :: (lx ++ more)) → Q .next { s with heap := h, toks := tk }) :
    wpAny (model pw w) (lA L fa cd) (exec wB3 (lenv L fa cd)) Q E s := by
  obtain ⟨n1, tn1, us, k1, rfl, hv, hT⟩ := id hl
  obtain ⟨o1, o2, o3, o4, o5, o6, o7, o8, o9, o10, o11⟩ := id O
  have hfl : (Rd.length : Int) < 9223372036854775808 := by rw [hR]; omega
  refine while_led (fun k m' nx => RInv w p L oX n1 tn1 us k1 more hI kk r lvv m k m' nx) (kk - hI) F N ⟨oH, tH, pv, kp, hI, rfl, Nat.le_refl _, hIk, fun i h1 h2 => by omega, dH, hpv, fun _ _ => rfl, rfl⟩ ?_
  rintro k m' _ h tk E' ⟨oH', tH', pv', kp', hI', rfl, hI1, hI2, hlt, dH', hpv', hm', rfl⟩ F1 N1
  have e1' : m' (Str.ofString "read") = some (.str Rd tR) := by rw [hm' _ (by decide)]; exact e1
  have hcell : ∀ b, @LE.le Nat _ b (L + 1 + 1 + 1 + 1 + 1 + 1 + 1) → b ∉ p.pl :: lxA p := by
    intro b hb hm
    simp only [List.mem_cons, List.not_mem_nil, or_false] at hm
    rcases hm with e | e | e | e | e | e | e | e | e
    all_goals (have e' : @Eq Nat b _ := e; omega)
  k_steps
  · have hlt9 : r hI' < lvv := by
      have h9 : (decide ((r hI' : Int) - (Rd.length : Int) < 0) == true) = true := by assumption
      have := of_decide_eq_true (eq_of_beq h9)
      omega
    have hlk : hI' < kk := by
      by_cases q : hI' < kk
      · exact q
      · have : hI' = kk := by omega
        subst this; omega
    have e9 : pushI r hI' (kk - hI') = lineI r (hI' + 1) :: pushI r (hI' + 1) (kk - (hI' + 1)) := by
      unfold pushI
      obtain ⟨d, hd⟩ : ∃ d, kk - hI' = d + 1 := ⟨kk - hI' - 1, by omega⟩
      have : kk - (hI' + 1) = d := by omega
      rw [hd, this, List.range'_succ, List.map_cons]
    rw [e9] at hpv'
    obtain ⟨tv, pv2, rfl, hpv2⟩ := ints_cons hpv'
    have hp1 := hpos (hI' + 1) (by omega)
    have hli : lineI r (hI' + 1) = (r (hI' + 1) : Int) ∨ lineI r (hI' + 1) = -(r (hI' + 1) : Int) := by unfold lineI; split <;> simp
    have hlp : lineI r (hI' + 1) > 0 → lineI r (hI' + 1) = (r (hI' + 1) : Int) := by omega
    have hlm : ¬ lineI r (hI' + 1) > 0 → lineI r (hI' + 1) = -(r (hI' + 1) : Int) := by omega
    have hlen : pv2.length ≤ 100 := by
      rw [hpv2.length]
      simp [pushI]; omega
    show wpAny _ _ (call (.ref 42) [.ref p.x]) _ _ _
    refine pop_use (rest := (L + 1 + 1 + 1 + 1 + 1 + 1 + 1, oH') :: (L + 1 + 1 + 1 + 1 + 1, oX) :: more) (k2 := kp') (vs := pv2) ⟨g, C7⟩ O hl (by rw [sizeLine_eq]; simp only [List.length_cons]; omega) B (by assumption) X (by assumption) (by kcf_all) (fun q hq => ⟨?_, ?_⟩) T rfl (by k_room) (by k_units) ?_
    · revert q hq; kcf_all
    · rcases List.mem_cons.mp hq with rfl | hq
      · exact hcell _ (Nat.le_refl _)
      · rcases List.mem_cons.mp hq with rfl | hq
        · exact hcell _ (by show @LE.le Nat _ _ _; omega)
        · exact hmP q hq
    intro h5 tk5 F5 N5
    k_steps
    all_goals (refine TurnW.next (kk - (hI' + 1)) ((L + 1 + 1 + 1 + 1 + 1 + 1 + 1, _) :: (L + 1 + 1 + 1 + 1 + 1, oX) :: (p.pl, PySem.W.listOf pv2.toArray (kp' + 1)) :: (lexL w p n1 tn1 us k1 ++ more)) (by omega) (by assumption) (by assumption) (by kcf_all) ?_)
    all_goals rename_i o9 F9 N9 d9
    all_goals (obtain ⟨th, dh⟩ := cell_val (b := (r (hI' + 1) : Int)) d9 (by omega))
    all_goals (refine ⟨o9, th, pv2, kp' + 1, hI' + 1, rfl, by omega, by omega, fun i h1 h2 => ?_, dh, hpv2, fun z hz => ?_, rfl⟩)
    all_goals (first | (show (if z = _ then _ else _) = _; rw [if_neg hz]; exact hm' z hz) | skip)
    all_goals (by_cases q : i = hI'; (subst q; exact hlt9); exact hlt i h1 (by omega))
  · have hge : lvv ≤ r hI' := by
      have h9 : (decide ((r hI' : Int) - (Rd.length : Int) < 0) == true) = false := by assumption
      by_cases q : lvv ≤ r hI'
      · exact q
      · rw [decide_eq_true (by omega)] at h9; cases h9
    exact hdone _ _ m' oH' tH' pv' kp' hI' hI1 hI2 hge hlt dH' hpv' hm' (by assumption) (by assumption)
end
section
open PySem PySem.W PySem.Calls PyProof.Rows PySem.Spec
set_option maxHeartbeats 2000000
noncomputable def extR (r : Nat → Nat) (kk j : Nat) (i : Nat) : Nat := if i = kk + 1 then r kk + r j else r i
theorem extR_old {r : Nat → Nat} {kk j i : Nat} (h : i ≤ kk) : extR r kk j i = r i := by unfold extR; rw [if_neg (by omega)]
theorem extR_new {r : Nat → Nat} {kk j : Nat} : extR r kk j (kk + 1) = r kk + r j := by unfold extR; rw [if_pos rfl]
theorem rows_ext {lv r : Nat → Nat} {kk j : Nat} (R : RowsOk lv r kk) (hj : j ≤ kk) (h1 : lv (r kk) ≤ r j) (h2 : ∀ i, i < j → r i < lv (r kk)) : RowsOk lv (extR r kk j) (kk + 1) := by
  refine ⟨?_, fun k hk => ?_⟩
  · rw [extR_old (Nat.zero_le _), R.zero]
  · by_cases e : k = kk
    · subst e
      exact ⟨j, hj, by rw [extR_new, extR_old (Nat.le_refl _), extR_old hj], by rw [extR_old (Nat.le_refl _), extR_old hj]; exact h1, fun i hi => by rw [extR_old (by omega), extR_old (Nat.le_refl _)]; exact h2 i hi⟩
    · obtain ⟨j', a, b, c, d⟩ := R.step k (by omega)
      exact ⟨j', a, by rw [extR_old (by omega), extR_old (by omega), extR_old (by omega)]; exact b, by rw [extR_old (by omega), extR_old (by omega)]; exact c, fun i hi => by rw [extR_old (by omega), extR_old (by omega)]; exact d i hi⟩
theorem rows_ge {lv r : Nat → Nat} {m : Nat} (R : RowsOk lv r m) : ∀ k, k ≤ m → k + 1 ≤ r k
  | 0, _ => by rw [R.zero]; exact Nat.le_refl _
  | k + 1, h => by
    have := rows_ge R k (by omega)
    have := R.lt_succ (k := k) (by omega)
    omega
theorem lineI_ext {r : Nat → Nat} {kk j i : Nat} (h : i ≤ kk) : lineI (extR r kk j) i = lineI r i := by unfold lineI; rw [extR_old h]
theorem pushI_ext {r : Nat → Nat} {kk j : Nat} (hj : j ≤ kk) : pushI (extR r kk j) j (kk + 1 - j) = pushI r j (kk - j) ++ [lineI (extR r kk j) (kk + 1)] := by
  unfold pushI
  have e : kk + 1 - j = (kk - j) + 1 := by omega
  rw [e, List.range'_concat, List.map_append]
  congr 1
  · refine List.map_congr_left fun i hi => lineI_ext ?_
    rw [List.mem_range'_1] at hi
    omega
  · simp only [List.map_cons, List.map_nil, Nat.one_mul]
    have : j + 1 + (kk - j) = kk + 1 := by omega
    rw [this]
theorem rowsI_ext {r : Nat → Nat} {kk j : Nat} : (List.range (kk + 1 + 1)).map (fun i => (extR r kk j i : Int)) = (List.range (kk + 1)).map (fun i => (r i : Int)) ++ [(r kk : Int) + (r j : Int)] := by
  rw [List.range_succ, List.map_append]
  congr 1
  · refine List.map_congr_left fun i hi => ?_
    rw [extR_old (by have := List.mem_range.mp hi; omega)]
  · simp only [List.map_cons, List.map_nil]
    rw [extR_new]; simp
end
section
open PySem PySem.W PySem.Calls PyProof.Rows PySem.Spec
set_option maxHeartbeats 2000000
noncomputable abbrev lwW : Stmt := unw (x := .While _ _ _ _) (y := lwD.getD 0 (.Pass default)) (.refl _)
theorem last_app (a : List Value) (v : Value) : (a ++ [v]).toArray.toList.getLast? = some v := by simp
theorem len_led {w : World} {A : Around} {E : Value → Shared → Prop} {s : Shared} {g : Heap} {L l : Addr} {news : List (Addr × Obj)} {items : Array Value} {kl : Nat} {Q : Value → Shared → Prop} (N : News g L s.heap news) (hm : (l, PySem.W.listOf items kl) ∈ news) (hf : items.size < 1000000)
    (h : Q (.int items.size (s.toks + 1)) { s with toks := s.toks + 1 + 1 }) : wpAny (model pw w) A (call (.builtin "len") [.ref l]) Q E s :=
  Calls.call_len_list ⟨_, (N _ hm).1, rfl, _, rfl⟩ (by omega) h
local macro_rules | `(tactic| walk_at "call builtin:len") => `(tactic| (k_here; (with_reducible show wpAny _ _ (call (Value.builtin "len") [Value.ref _]) _ _ _); k_dflt (refine' len_led (by k_asm) (by k_mem) (by ((simp only [List.size_toArray, List.length_append, List.length_cons, List.length_nil]); omega)) ?_)))
local macro_rules | `(tactic| walk_at "call ref") => `(tactic| (k_here; k_dflt (refine' pure_useY (sub_y _ _ _ _ _ _ _ _ _) (by k_asm) (by k_asm) (by k_asm) (by k_asm) (by k_asm) rfl (by k_room) (by k_units) ?_; k_whole); intro v' h' tk' hok F' N' G'; (obtain ⟨t', he'⟩ := hok); subst he'))
local macro_rules | `(tactic| walk_at "call ref") => `(tactic| (k_here; k_dflt (refine' pure_useY (add_y _ _ _ _ _ _ _ _ _) (by k_asm) (by k_asm) (by k_asm) (by k_asm) (by k_asm) rfl (by k_room) (by k_units) ?_; k_whole); intro v' h' tk' hok F' N' G'; (obtain ⟨t', he'⟩ := hok); subst he'))
local macro_rules | `(tactic| walk_at "last subscriptTail") => `(tactic| (k_here; k_dflt (refine' sub_last (by k_asm) (by k_mem) (by first | assumption | exact last_push _ _) (by with_unfolding_all rfl) ?_)))
local macro_rules | `(tactic| walk_at "subscriptTail") => `(tactic| (k_here; k_dflt (refine' sub_last (by k_asm) (by k_mem) (by first | assumption | exact last_push _ _) (by with_unfolding_all rfl) ?_)))
local macro_rules | `(tactic| walk_at "call builtin:list.append") => `(tactic| (k_here; (with_reducible show wpAny _ _ (call (Value.builtin _) [Value.ref _, _]) _ _ _); k_dflt (refine' append_K (by k_asm) (by k_asm) (by k_upd) ?_ (by (rw [sizeLine_eq]; (simp only [List.size_toArray]); omega)); k_whole); intro h' F' N'))
local macro_rules | `(tactic| walk_at "call ref") => `(tactic| (k_here; (with_reducible show wpAny _ _ (call (Value.ref 49, _).1 _) _ _ _); refine stop_intro ?_))
local macro_rules | `(tactic| walk_at "call ref") => `(tactic| (k_here; (with_reducible show wpAny _ _ (call (Value.ref 49) _) _ _ _); refine stop_intro ?_))
local macro_rules | `(tactic| walk_at "exec While") => `(tactic| (k_here; refine stop_intro ?_))
local macro_rules | `(tactic| walk_at "exec Assign") => `(tactic| (k_here; (with_reducible show wpAny _ _ (exec (Stmt.Assign [Expr.Name (Str.ofString "read") _] _ _) _) _ _ _); refine stop_intro ?_))
theorem push_use2 {w : World} {mean : ExcName → Option Value} {mg mb : Str → Option Value} {dp un : Nat} {gd : Option (List Code)} {cn : Str} {cs₀ : Scope} {a : Addr} {ccd : Value} {cl : List (Str × Addr)} {outer : List Env} {A₀ : Around} {base h₀ : Heap} {L : Addr} {m : Str → Option Value} {s : Shared} {Q E : Value → Shared → Prop}
    {all rest : List (Addr × Obj)} {p : LP} {T9 : Int} {cs : List Nat} {lx : List (Addr × Obj)} {v : Value} {vs : List Value} {k2 : Nat} (C9 : HasCode) (O : p.Far) (hl : LexAt w p T9 cs lx) (hz : (v :: vs).length ≤ sizeLine)
    (B : Below A₀ base outer h₀) (F : Fr h₀ L s.heap m) (X : (K w.params).In h₀) (N : News h₀ L s.heap all) (hs : ∀ q ∈ (p.pl, PySem.W.listOf vs.toArray k2) :: lx, q ∈ all) (hr : ∀ q ∈ rest, q ∈ all) (hr2 : ∀ q ∈ rest, q.1 ∉ p.pl :: lxA p) (T : Top tq lz mean mg mb h₀) (hk : cs₀.kind = .function) (hd : dp + 40 < recursionLimit) (hu : un + 400 < cLine)
    (h : ∀ h' tk', Fr h₀ L h' m → News h₀ L h' ((p.pl, PySem.W.listOf (vs ++ [v]).toArray (k2 + 1)) :: (lx ++ rest)) → Q .none { s with heap := h', toks := tk' }) :
    wpAny (model pw w) (ktrTop dp un gd cn cs₀ L a ccd cl outer) (call (.ref 49) [.ref p.x, v]) Q E s :=
  push_use C9 O hl hz B F X N hs (fun q hq => ⟨hr q hq, hr2 q hq⟩) T hk hd hu h
structure Pure (P : Params) (ps : List Int) : Prop where
  read : ∀ k, Txt.join (Str.ofString "") (prepL P (tokR (frontCs ps k)).1.cps.toList) = Txt.join (Str.ofString "") ((textM ps).take k)
  ok : ∀ k, okCs (frontCs ps k)
  size : ∀ k, (tokR (frontCs ps k)).1.cps.size ≤ 1000
  le : ∀ t, lvN (textM ps) t ≤ t
  mono : ∀ a b, a ≤ b → lvN (textM ps) a ≤ lvN (textM ps) b
inductive WInv (w : World) (p : LP) (L : Addr) (oR oX oM : Obj) (rw tB : Addr) (vb : Array Value) (tA : Addr) (va : Array Value) (c : Addr) (n1 : Int) (tn1 : Tok) (us : List Value) (k1 : Nat) (rest : List (Addr × Obj)) (lv : Nat → Nat) (m : Str → Option Value) (k : Nat) (m' : Str → Option Value) (nx : List (Addr × Obj)) : Prop
  | mk (r : Nat → Nat) (kk hI kr kp : Nat) (oH : Obj) (tH : Tok) (rv pv : List Value) (q0 : nx = (L + 1 + 1 + 1 + 1 + 1 + 1 + 1, oH) :: (L + 1 + 1 + 1 + 1 + 1 + 1, oR) :: (L + 1 + 1 + 1 + 1 + 1, oX) :: (L + 1, oM) :: (rw, PySem.W.listOf rv.toArray kr) :: (tB, PySem.W.listOf vb 0) :: (tA, PySem.W.listOf va 0) :: (143, tab1 c) :: (p.pl, PySem.W.listOf pv.toArray kp) :: (lexL w p n1 tn1 us k1 ++ rest)) (q1 : RowsOk lv r kk) (q2 : r kk ≤ 40) (q3 : hI ≤ kk) (q4 : (∀ i, i < hI → r i < lv (r kk))) (q5 : IntsAre rv ((List.range (kk + 1)).map fun i => (r i : Int))) (q6 : oH.data = .cell (some (.int (r hI : Int) tH))) (q7 : IntsAre pv (pushI r hI (kk - hI))) (q8 : (∀ z, z ∉ [Str.ofString "front", Str.ofString "read", Str.ofString "part"] → m' z = m z)) (q9 : k = 40 - r kk) : WInv w p L oR oX oM rw tB vb tA va c n1 tn1 us k1 rest lv m k m' nx
theorem law_while (w : World) (mean : ExcName → Option Value) (mg mb : Str → Option Value) (g : Heap) (L fa : Addr) (cd : Value) (base : Heap) (s : Shared) (m : Str → Option Value) (c rw : Addr) (p : LP) (ps : List Int) (tA tB : Addr) (va vb : Array Value) (rest : List (Addr × Obj)) (oM oR oX oH0 : Obj) (kr0 kp0 : Nat) (tH0 t1 tW : Tok) (T9 : Int) (cs : List Nat) (lx : List (Addr × Obj)) (Q : Flow → Shared → Prop) (E : Value → Shared → Prop)
    (B : Below callerA base [] g) (X : (K w.params).In g) (T : Top tq lz mean mg mb g) (C7 : CodeHd g 147 143) (H : LawD L c rw p ps tA tB va vb rest) (PU : Pure w.params ps) (F : Fr g L s.heap m)
    (N : News g L s.heap ((L + 1 + 1 + 1 + 1 + 1 + 1 + 1, oH0) :: (L + 1 + 1 + 1 + 1 + 1 + 1, oR) :: (L + 1 + 1 + 1 + 1 + 1, oX) :: (L + 1, oM) :: (rw, PySem.W.listOf #[Value.int 1 t1] kr0) :: (tB, PySem.W.listOf vb 0) :: (tA, PySem.W.listOf va 0) :: (143, tab1 c) :: (p.pl, PySem.W.listOf #[] kp0) :: (lx ++ rest)))
    (e1 : m (Str.ofString "signs") = some (.ref tA)) (e2 : m (Str.ofString "whole") = some (.int va.size tW)) (dM : oM.data = .cell (some (.ref tB))) (dX : oX.data = .cell (some (.ref p.x))) (dR : oR.data = .cell (some (.ref rw))) (dH0 : oH0.data = .cell (some (.int 1 tH0))) (hl : LexAt w p T9 cs lx)
    (hdone : ∀ h tk m' (r : Nat → Nat) (kk hI kr kp : Nat) (oH : Obj) (tH : Tok) (rv pv : List Value), RowsOk (lvN (textM ps)) r kk → r kk ≤ 40 → hI ≤ kk → va.size ≤ r kk → IntsAre rv ((List.range (kk + 1)).map fun i => (r i : Int)) → oH.data = .cell (some (.int (r hI : Int) tH)) → IntsAre pv (pushI r hI (kk - hI)) → (∀ z, z ∉ [Str.ofString "front", Str.ofString "read", Str.ofString "part"] → m' z = m z) → Fr g L h m' →
      News g L h ((L + 1 + 1 + 1 + 1 + 1 + 1 + 1, oH) :: (L + 1 + 1 + 1 + 1 + 1 + 1, oR) :: (L + 1 + 1 + 1 + 1 + 1, oX) :: (L + 1, oM) :: (rw, PySem.W.listOf rv.toArray kr) :: (tB, PySem.W.listOf vb 0) :: (tA, PySem.W.listOf va 0) :: (143, tab1 c) :: (p.pl, PySem.W.listOf pv.toArray kp) :: (lx ++ rest)) → Q .next { s with heap := h, toks := tk }) :
    wpAny (model pw w) (lA L fa cd) (exec lwW (lenv L fa cd)) Q E s := by
  obtain ⟨n1, tn1, us, k1, rfl, hv, hT⟩ := id hl
  have hz := H.hz
  generalize hlv : lvN (textM ps) = lv at *
  refine while_led (fun k m' nx => WInv w p L oR oX oM rw tB vb tA va c n1 tn1 us k1 rest lv m k m' nx) 39 F N ⟨fun _ => 1, 0, 0, kr0, kp0, oH0, tH0, [.int 1 t1], [], rfl, ⟨rfl, fun k hk => by omega⟩, by show 1 ≤ 40; omega, Nat.le_refl _, fun i hi => by omega, .cons _ _ .nil, dH0, .nil, fun _ _ => rfl, rfl⟩ ?_
  rintro k m' _ h tk E' ⟨r, kk, hI, kr, kp, oH, tH, rv, pv, rfl, R, hr40, hIk, hbel, hrv, dH, hpv, hm', rfl⟩ F1 N1
  have e1' : m' (Str.ofString "signs") = some (.ref tA) := by rw [hm' _ (by decide)]; exact e1
  have e2' : m' (Str.ofString "whole") = some (.int va.size tW) := by rw [hm' _ (by decide)]; exact e2
  have hkk := rows_ge R kk (Nat.le_refl _)
  have hrl : rv.length = kk + 1 := by rw [hrv.length]; simp
  obtain ⟨tr, hlast⟩ : ∃ t, rv.toArray.toList.getLast? = some (.int (r kk : Int) t) := by
    obtain ⟨t, e⟩ := ints_at (i := kk) hrv (by simp)
    refine ⟨t, ?_⟩
    rw [List.toList_toArray, List.getLast?_eq_getElem?, hrl]
    simp only [Nat.add_sub_cancel]
    rw [e, List.getD_eq_getElem?_getD, List.getElem?_map, List.getElem?_range (by omega)]
    rfl
  have h143 := H.h143
  have hlA := H.lA
  have hlB := H.lB
  have hlC := H.lC
  have hlP := H.lP
  have hlR := H.lR
  have hlRc := H.lRc
  have hpc := H.pc
  have hpc' : @Eq Nat p.c c := hpc
  obtain ⟨o1, o2, o3, o4, o5, o6, o7, o8, o9, o10, o11⟩ := id H.pfar
  have hfc : p.oc.data = .fields p.ocv := H.pok.hoc
  have mc : (p.c, p.oc) ∈ (L + 1 + 1 + 1 + 1 + 1 + 1 + 1, oH) :: (L + 1 + 1 + 1 + 1 + 1 + 1, oR) :: (L + 1 + 1 + 1 + 1 + 1, oX) :: (L + 1, oM) :: (rw, PySem.W.listOf rv.toArray kr) :: (tB, PySem.W.listOf vb 0) :: (tA, PySem.W.listOf va 0) :: (143, tab1 c) :: (p.pl, PySem.W.listOf pv.toArray kp) :: (lexL w p n1 tn1 us k1 ++ rest) := by k_mem
  have nx1 : @Ne Nat p.x p.c := ne_news N1 (by k_mem) mc (by rw [hfc]; intro e; cases e)
  have ny1 : @Ne Nat p.y p.c := ne_news N1 (by k_mem) mc (by rw [hfc]; intro e; cases e)
  have ndy1 : @Ne Nat p.dy p.c := ne_news N1 (by k_mem) mc (by rw [hfc]; intro e; cases e)
  have nf1 : @Ne Nat p.f p.c := ne_news N1 (by k_mem) mc (by rw [hfc]; intro e; cases e)
  have ncc1 : @Ne Nat p.cc p.c := ne_news N1 (by k_mem) mc (by rw [hfc, H.pok.hco]; intro e; cases e)
  k_steps
  · rename_i h2 F2 N2
    have hltW : r kk < va.size := by omega
    show wpAny _ _ (exec _ _) _ _ _
    refine law_read w mean mg mb g L fa cd base _ _ ps tA c va p.oc p.ocv p.tq ((L + 1 + 1 + 1 + 1 + 1 + 1 + 1, oH) :: (L + 1 + 1 + 1 + 1 + 1 + 1, oR) :: (L + 1 + 1 + 1 + 1 + 1, oX) :: (L + 1, oM) :: (rw, PySem.W.listOf rv.toArray kr) :: (tB, PySem.W.listOf vb 0) :: (p.pl, PySem.W.listOf pv.toArray kp) :: (p.x, instObj 52 p.d) :: (p.d, dictOf [dE w "lineno" p.t1 (.int n1 tn1), dE w "instream" p.t2 (.ref p.y), dE w "whitespace" p.t3 (.str wsT p.u1), dE w "pushback" p.t4 (.ref p.pl)] 4) :: (p.y, instObj 52 p.dy) :: (p.dy, dictOf [dE w "lineno" p.t5 (.int 1 p.u2), dE w "instream" p.t6 .none, dE w "whitespace" p.t7 (.str p.ws2 p.u3), dE w "pushback" p.t8 (.ref p.pl2), dE w "read" p.t9 (.ref p.f)] 5) :: (p.f, kla_obj (Str.ofString "<lambda>") (Str.ofString "_law_lexer.<locals>.<lambda>") lamP lamB lamS [(Str.ofString "signs", p.cc)] p.pm p.c p.ctv) :: (p.cc, p.co) :: (p.sl, PySem.W.listOf us.toArray k1) :: rest) (r kk) tr _ _ B X T C7 H.hS hz.2.2 hfc H.pok.hoc1 F2 (news_sub N2 ?sub) e1' (by rfl) ?hm ?hmc ?hA1 ?hA2 ?h143 (PU.ok _) (PU.size _) ?hd
    case sub => rw [← hpc]; kcf_all
    case hA1 => omega
    case hA2 => omega
    case h143 => omega
    case hm =>
      simp only [List.forall_mem_cons]
      refine ⟨?_, ?_, ?_, ?_, ?_, ?_, ?_, ?_, ?_, ?_, ?_, ?_, ?_, ?_, H.r143⟩ <;> (show @Ne Nat _ _; omega)
    case hmc =>
      simp only [List.forall_mem_cons]
      refine ⟨?_, ?_, ?_, ?_, ?_, ?_, ?_, ?_, ?_, ?_, ?_, ?_, ?_, ?_, fun q hq => Nat.ne_of_lt (H.rP q hq).2⟩ <;> (show @Ne Nat _ _; omega)
    case hd =>
      intro h3 tk3 tR F3 N3
      rw [PU.read] at F3
      have N4 := news_sub (l' := (L + 1 + 1 + 1 + 1 + 1 + 1 + 1, oH) :: (L + 1 + 1 + 1 + 1 + 1 + 1, oR) :: (L + 1 + 1 + 1 + 1 + 1, oX) :: (L + 1, oM) :: (rw, PySem.W.listOf rv.toArray kr) :: (tB, PySem.W.listOf vb 0) :: (tA, PySem.W.listOf va 0) :: (143, tab1 c) :: (p.pl, PySem.W.listOf pv.toArray kp) :: (lexL w p n1 tn1 us k1 ++ rest)) N3 (by rw [← hpc]; kcf_all)
      clear N3
      have hpk : StrsAre (kms_pick vb.toList none (some (r kk : Int))).toArray.toList ((textM ps).take (r kk)) := by
        rw [List.toList_toArray, pickK]
        exact strs_take _ H.hM
      have hms := textM_short ps
      have hlm := strs_len H.hM
      rw [Array.length_toList] at hlm
      have hw9 : (((textM ps).take (r kk)).map (·.length)).sum + ((textM ps).take (r kk)).length ≤ 1048576 := by
        have := sum_short (l := (textM ps).take (r kk)) (b := 3) fun x hx => hms x (List.mem_of_mem_take hx)
        have : ((textM ps).take (r kk)).length ≤ 16 := by rw [List.length_take]; omega
        omega
      have hjl : (Txt.join (Str.ofString "") ((textM ps).take (r kk))).length = lv (r kk) := by rw [← hlv, tjoin_cat]; rfl
      have hl48 : lv (r kk) ≤ 48 := by
        have := PU.le (r kk)
        rw [hlv] at this
        omega
      have hllv : lv (r kk) ≤ r kk := by
        have := PU.le (r kk)
        rwa [hlv] at this
      have hnot : ∀ b : Nat, b < p.cc → b ≠ p.c → b ∉ p.pl :: lxA p := by
        intro b hb hbc hm
        simp only [List.mem_cons, List.not_mem_nil, or_false] at hm
        rcases hm with e | e | e | e | e | e | e | e | e
        all_goals (have e' : @Eq Nat b _ := e; omega)
      have hnotR : @Nat.lt p.pl rw → rw ∉ p.pl :: lxA p := by
        intro _ hm
        simp only [List.mem_cons, List.not_mem_nil, or_false] at hm
        rcases hm with e | e | e | e | e | e | e | e | e
        all_goals (have e' : @Eq Nat rw _ := e; omega)
      k_steps
      · exact absurd (by assumption : (_ != _) = true) (by simp)
      rename_i hS9 fS nS lS t1' tk1' hne9
      show wpAny _ _ (exec _ _) _ _ _
      refine law_inner w mean mg mb g L fa cd base _ _ p T9 cs (lexL w p n1 tn1 us k1) ((L + 1 + 1 + 1 + 1 + 1 + 1, oR) :: (L + 1, oM) :: (rw, PySem.W.listOf rv.toArray kr) :: (tB, PySem.W.listOf vb 0) :: (tA, PySem.W.listOf va 0) :: (143, tab1 c) :: rest) oX oH pv kp r kk hI (lv (r kk)) _ tR tH _ _ B X T C7 fS (news_sub nS (by kcf_all)) (by rfl) hjl hl48 dH dX hl H.pfar hpv hIk (by omega) hllv (fun i hi => R.pos i hi) (by omega) (by omega) ?hm7 ?hmP ?hd2
      case hm7 =>
        simp only [List.forall_mem_cons]
        refine ⟨?_, ?_, ?_, ?_, ?_, ?_, fun q hq => (H.rcell q hq).1⟩ <;> (show @Ne Nat _ _; omega)
      case hmP =>
        simp only [List.forall_mem_cons]
        refine ⟨hnot _ ?_ ?_, hnot _ ?_ ?_, hnotR hlR, hnot _ ?_ ?_, hnot _ ?_ ?_, hnot _ ?_ ?_, fun q hq => hnot _ (H.rP q hq).1 (by have := (H.rP q hq).2; rw [hpc]; exact Nat.ne_of_lt this)⟩ <;> omega
      case hd2 =>
        intro h4 tk4 m4 oH4 tH4 pv4 kp4 hI4 hI41 hI42 hge4 hlt4 dH4 hpv4 hm4 F5 N5
        have e4f : m4 (Str.ofString "front") = some (.int (r kk : Int) tr) := by rw [hm4 _ (by decide)]; rfl
        have N6 := news_sub (l' := (rw, PySem.W.listOf rv.toArray kr) :: (L + 1 + 1 + 1 + 1 + 1 + 1 + 1, oH4) :: (L + 1 + 1 + 1 + 1 + 1 + 1, oR) :: (L + 1 + 1 + 1 + 1 + 1, oX) :: (L + 1, oM) :: (tB, PySem.W.listOf vb 0) :: (tA, PySem.W.listOf va 0) :: (143, tab1 c) :: (p.pl, PySem.W.listOf pv4.toArray kp4) :: (p.x, instObj 52 p.d) :: (p.d, dictOf [dE w "lineno" p.t1 (.int n1 tn1), dE w "instream" p.t2 (.ref p.y), dE w "whitespace" p.t3 (.str wsT p.u1), dE w "pushback" p.t4 (.ref p.pl)] 4) :: (p.y, instObj 52 p.dy) :: (p.dy, dictOf [dE w "lineno" p.t5 (.int 1 p.u2), dE w "instream" p.t6 .none, dE w "whitespace" p.t7 (.str p.ws2 p.u3), dE w "pushback" p.t8 (.ref p.pl2), dE w "read" p.t9 (.ref p.f)] 5) :: (p.f, kla_obj (Str.ofString "<lambda>") (Str.ofString "_law_lexer.<locals>.<lambda>") lamP lamB lamS [(Str.ofString "signs", p.cc)] p.pm p.c p.ctv) :: (p.c, p.oc) :: (p.cc, p.co) :: (p.sl, PySem.W.listOf us.toArray k1) :: rest) N5 (by kcf_all)
        clear N5
        have hrw : ∀ q ∈ rest, q.1 ≠ rw := fun q hq => Nat.ne_of_lt (Nat.lt_trans (H.rP q hq).1 (by omega))
        have hp1 := R.pos hI4 hI42
        have hr4 : r hI4 ≤ r kk := by
          by_cases q : hI4 = kk
          · rw [q]; exact Nat.le_refl _
          · exact Nat.le_of_lt (R.mono (i := hI4) (j := kk) (by omega) (Nat.le_refl _))
        have h16 : r kk ≤ 16 := Nat.le_of_lt (Nat.lt_of_lt_of_le hltW hz.2.2)
        have hr16 : r hI4 ≤ 16 := Nat.le_trans hr4 h16
        have hbel4 : ∀ i, i < hI4 → r i < lv (r kk) := fun i hi => by
          by_cases q : i < hI
          · exact hbel i q
          · exact hlt4 i (by omega) hi
        have hbel5 : ∀ i, i < hI4 → extR r kk hI4 i < lv (extR r kk hI4 (kk + 1)) := fun i hi => by
          rw [extR_old (by omega), extR_new]
          have := PU.mono (r kk) (r kk + r hI4) (by omega)
          rw [hlv] at this
          have := hbel4 i hi
          omega
        have hpl4 : pv4.length ≤ 100 := by rw [hpv4.length]; simp [pushI]; omega
        have hlin : lineI (extR r kk hI4) (kk + 1) = if (kk + 1) % 2 = 1 then ((r kk : Int) + (r hI4 : Int)) else -((r kk : Int) + (r hI4 : Int)) := by
          unfold lineI
          rw [extR_new]
          simp
        k_steps
        · rename_i t9
          have hpar := (by assumption : Int.fmod _ 2 = 0)
          have hlv9 : lineI (extR r kk hI4) (kk + 1) = (r kk : Int) + (r hI4 : Int) := by
            simp only [List.size_toArray, List.length_append, List.length_cons, List.length_nil, hrl] at hpar
            rw [Int.fmod_eq_emod_of_nonneg _ (by omega)] at hpar
            rw [hlin]
            split <;> omega
          clear hlin
          show wpAny _ _ (call (.ref 49) [.ref p.x, _]) _ _ _
          refine' push_use2 (rest := (rw, PySem.W.listOf _ (kr + 1)) :: (L + 1 + 1 + 1 + 1 + 1 + 1 + 1, oH4) :: (L + 1 + 1 + 1 + 1 + 1 + 1, oR) :: (L + 1 + 1 + 1 + 1 + 1, oX) :: (L + 1, oM) :: (tB, PySem.W.listOf vb 0) :: (tA, PySem.W.listOf va 0) :: (143, tab1 c) :: rest) (k2 := kp4) (vs := pv4) ⟨g, C7⟩ H.pfar hl ?_ B (by assumption) X (by assumption) (by kcf_all) (by kcf_all) ?_ T rfl (by k_room) (by k_units) ?_
          · rw [sizeLine_eq]; simp only [List.length_cons]; omega
          · simp only [List.forall_mem_cons]
            exact ⟨hnotR hlR, hnot _ (by omega) (by omega), hnot _ (by omega) (by omega), hnot _ (by omega) (by omega), hnot _ (by omega) (by omega), hnot _ (by omega) (by omega), hnot _ (by omega) (by omega), hnot _ (by omega) (by omega), fun q hq => hnot _ (H.rP q hq).1 (by have := (H.rP q hq).2; rw [hpc]; exact Nat.ne_of_lt this)⟩
          · intro h9 tk9 F9 N9
            k_steps
            refine' TurnW.next (40 - (r kk + r hI4)) ((L + 1 + 1 + 1 + 1 + 1 + 1 + 1, oH4) :: (L + 1 + 1 + 1 + 1 + 1 + 1, oR) :: (L + 1 + 1 + 1 + 1 + 1, oX) :: (L + 1, oM) :: (rw, PySem.W.listOf (rv ++ [Value.int _ _]).toArray (kr + 1)) :: (tB, PySem.W.listOf vb 0) :: (tA, PySem.W.listOf va 0) :: (143, tab1 c) :: (p.pl, PySem.W.listOf (pv4 ++ [Value.int ((r kk : Int) + (r hI4 : Int)) t9]).toArray (kp4 + 1)) :: (lexL w p n1 tn1 us k1 ++ rest)) ?hke F9 N9 ?sube ⟨extR r kk hI4, kk + 1, hI4, kr + 1, kp4 + 1, oH4, tH4, rv ++ [Value.int _ _], pv4 ++ [Value.int ((r kk : Int) + (r hI4 : Int)) t9], rfl, rows_ext R hI42 hge4 hbel4, ?g1e, ?g2e, hbel5, ?g3e, ?g4e, ?g5e, ?g6e, ?g7e⟩
            case sube => kcf_all
            case hke => exact Nat.sub_lt_sub_left (Nat.lt_of_le_of_lt h16 (by decide)) (Nat.lt_add_of_pos_right hp1)
            case g1e => rw [extR_new]; exact Nat.le_trans (Nat.add_le_add h16 hr16) (by decide)
            case g2e => exact Nat.le_succ_of_le hI42
            case g3e => rw [rowsI_ext]; exact ints_snoc hrv
            case g4e => rw [extR_old hI42]; exact dH4
            case g5e => rw [pushI_ext hI42, hlv9]; exact ints_snoc hpv4
            case g6e =>
              intro z hz
              have z1 : z ≠ Str.ofString "front" := fun e => hz (by rw [e]; exact .head _)
              have z2 : z ≠ Str.ofString "read" := fun e => hz (by rw [e]; exact .tail _ (.head _))
              have z3 : z ≠ Str.ofString "part" := fun e => hz (by rw [e]; exact .tail _ (.tail _ (.head _)))
              rw [hm4 z z3]
              show (if z = _ then _ else if z = _ then _ else _) = _
              rw [if_neg z2, if_neg z1]
              exact hm' z hz
            case g7e => rw [extR_new]
        · rename_i t9
          have hpar := (by assumption : Int.fmod _ 2 ≠ 0)
          have hlv9 : lineI (extR r kk hI4) (kk + 1) = 0 - ((r kk : Int) + (r hI4 : Int)) := by
            simp only [List.size_toArray, List.length_append, List.length_cons, List.length_nil, hrl] at hpar
            rw [Int.fmod_eq_emod_of_nonneg _ (by omega)] at hpar
            rw [hlin]
            split <;> omega
          clear hlin
          show wpAny _ _ (call (.ref 49) [.ref p.x, _]) _ _ _
          refine' push_use2 (rest := (rw, PySem.W.listOf _ (kr + 1)) :: (L + 1 + 1 + 1 + 1 + 1 + 1 + 1, oH4) :: (L + 1 + 1 + 1 + 1 + 1 + 1, oR) :: (L + 1 + 1 + 1 + 1 + 1, oX) :: (L + 1, oM) :: (tB, PySem.W.listOf vb 0) :: (tA, PySem.W.listOf va 0) :: (143, tab1 c) :: rest) (k2 := kp4) (vs := pv4) ⟨g, C7⟩ H.pfar hl ?_ B (by assumption) X (by assumption) (by kcf_all) (by kcf_all) ?_ T rfl (by k_room) (by k_units) ?_
          · rw [sizeLine_eq]; simp only [List.length_cons]; omega
          · simp only [List.forall_mem_cons]
            exact ⟨hnotR hlR, hnot _ (by omega) (by omega), hnot _ (by omega) (by omega), hnot _ (by omega) (by omega), hnot _ (by omega) (by omega), hnot _ (by omega) (by omega), hnot _ (by omega) (by omega), hnot _ (by omega) (by omega), fun q hq => hnot _ (H.rP q hq).1 (by have := (H.rP q hq).2; rw [hpc]; exact Nat.ne_of_lt this)⟩
          · intro h9 tk9 F9 N9
            k_steps
            refine' TurnW.next (40 - (r kk + r hI4)) ((L + 1 + 1 + 1 + 1 + 1 + 1 + 1, oH4) :: (L + 1 + 1 + 1 + 1 + 1 + 1, oR) :: (L + 1 + 1 + 1 + 1 + 1, oX) :: (L + 1, oM) :: (rw, PySem.W.listOf (rv ++ [Value.int _ _]).toArray (kr + 1)) :: (tB, PySem.W.listOf vb 0) :: (tA, PySem.W.listOf va 0) :: (143, tab1 c) :: (p.pl, PySem.W.listOf (pv4 ++ [Value.int (0 - ((r kk : Int) + (r hI4 : Int))) t9]).toArray (kp4 + 1)) :: (lexL w p n1 tn1 us k1 ++ rest)) ?hko F9 N9 ?subo ⟨extR r kk hI4, kk + 1, hI4, kr + 1, kp4 + 1, oH4, tH4, rv ++ [Value.int _ _], pv4 ++ [Value.int (0 - ((r kk : Int) + (r hI4 : Int))) t9], rfl, rows_ext R hI42 hge4 hbel4, ?g1o, ?g2o, hbel5, ?g3o, ?g4o, ?g5o, ?g6o, ?g7o⟩
            case subo => kcf_all
            case hko => exact Nat.sub_lt_sub_left (Nat.lt_of_le_of_lt h16 (by decide)) (Nat.lt_add_of_pos_right hp1)
            case g1o => rw [extR_new]; exact Nat.le_trans (Nat.add_le_add h16 hr16) (by decide)
            case g2o => exact Nat.le_succ_of_le hI42
            case g3o => rw [rowsI_ext]; exact ints_snoc hrv
            case g4o => rw [extR_old hI42]; exact dH4
            case g5o => rw [pushI_ext hI42, hlv9]; exact ints_snoc hpv4
            case g6o =>
              intro z hz
              have z1 : z ≠ Str.ofString "front" := fun e => hz (by rw [e]; exact .head _)
              have z2 : z ≠ Str.ofString "read" := fun e => hz (by rw [e]; exact .tail _ (.head _))
              have z3 : z ≠ Str.ofString "part" := fun e => hz (by rw [e]; exact .tail _ (.tail _ (.head _)))
              rw [hm4 z z3]
              show (if z = _ then _ else if z = _ then _ else _) = _
              rw [if_neg z2, if_neg z1]
              exact hm' z hz
            case g7o => rw [extR_new]
  · have hge : va.size ≤ r kk := by omega
    exact hdone _ _ m' r kk hI kr kp oH tH rv pv R hr40 hIk hge hrv dH hpv hm' (by assumption) (by assumption)
end
section
open PySem PySem.W PySem.Calls PyProof.Rows PySem.Spec
set_option maxHeartbeats 2000000
local macro_rules | `(tactic| kpc_none) => `(tactic| grind)

theorem pair_ints {F : Value → Value → Prop} {f : Nat → Int} (hF : ∀ (i : Nat) t y, F (.int (0 + (i : Int)) t) y → ∃ u, y = .int (f i) u) : ∀ {vs ys : List Value} (k : Nat), (∀ (j : Nat) v, vs[j]? = some v → ∃ t, v = .int (0 + ((k + j : Nat) : Int)) t) → Paired F vs ys → IntsAre ys ((List.range' k vs.length).map f)
  | _, _, _, _, .nil => .nil
  | v :: vs, y :: ys, k, hv, .cons h1 h2 => by
    obtain ⟨t, e⟩ := hv 0 v rfl
    rw [e] at h1
    obtain ⟨u, e2⟩ := hF (k + 0) t y h1
    rw [List.length_cons, List.range'_succ, List.map_cons, e2]
    refine .cons _ _ (pair_ints hF (k + 1) (fun j v' hj => ?_) h2)
    obtain ⟨t', e'⟩ := hv (j + 1) v' (by simpa using hj)
    exact ⟨t', by rw [e']; congr 2; omega⟩
theorem filter_above {p : Value → Bool} {a : Nat} (hp : ∀ (i : Nat) t, p (.int (0 + (i : Int)) t) = decide (a < i)) : ∀ {vs : List Value} (k : Nat), (∀ (j : Nat) v, vs[j]? = some v → ∃ t, v = .int (0 + ((k + j : Nat) : Int)) t) → vs.filter p = vs.drop (a + 1 - k)
  | [], _, _ => by simp
  | v :: vs, k, hv => by
    obtain ⟨t, e⟩ := hv 0 v rfl
    have ih := filter_above hp (vs := vs) (k + 1) (fun j v' hj => by
      obtain ⟨t', e'⟩ := hv (j + 1) v' (by simpa using hj)
      exact ⟨t', by rw [e']; congr 2; omega⟩)
    rw [List.filter_cons, ih, e, hp]
    by_cases q : a < k
    · rw [decide_eq_true (by omega), if_pos rfl, show a + 1 - k = 0 by omega, show a + 1 - (k + 1) = 0 by omega]
      simp
    · rw [decide_eq_false (by omega), show a + 1 - k = (a + 1 - (k + 1)) + 1 by omega]
      simp
noncomputable abbrev lwE : List Stmt := unw (x := [_, _, _, _, _, _, _, _]) (y := lwD.drop 1) (.refl _)
noncomputable abbrev lwG : List Stmt := unw (x := [_, _, _, _, _, _]) (y := lwE.drop 2) (.refl _)
noncomputable abbrev lwE0 : Stmt := unw (x := .Assign _ _ _) (y := lwE.getD 0 (.Pass default)) (.refl _)
noncomputable abbrev lwE1 : Stmt := unw (x := .Assign _ _ _) (y := lwE.getD 1 (.Pass default)) (.refl _)
local macro_rules | `(tactic| walk_at "call builtin:len") => `(tactic| (k_here; (with_reducible show wpAny _ _ (call (Value.builtin "len") [Value.ref _]) _ _ _); k_dflt (refine' len_led (by k_asm) (by k_mem) (by ((simp only [List.size_toArray, List.length_append, List.length_cons, List.length_nil]); omega)) ?_)))
noncomputable def LineF (r : Nat → Nat) (v y : Value) : Prop := ∃ (i : Int) (ti u : Tok), v = .int i ti ∧ y = .int (lineI r i.toNat) u
theorem LineF.mk {r : Nat → Nat} {j : Nat} {x : Int} {t u : Tok} (e : x = lineI r j) : LineF r (.int (0 + (j : Int)) t) (.int x u) := ⟨_, _, _, rfl, by rw [show (0 + (j : Int)).toNat = j by omega, e]⟩
theorem law_line (w : World) (mean : ExcName → Option Value) (mg mb : Str → Option Value) (g : Heap) (L fa : Addr) (cd : Value) (base : Heap) (s : Shared) (m : Str → Option Value) (rw : Addr) (oR oH o8 : Obj) (kr : Nat) (rv : List Value) (r : Nat → Nat) (kk : Nat) (more : List (Addr × Obj)) (Q : Flow → Shared → Prop) (E : Value → Shared → Prop)
    (B : Below callerA base [] g) (X : (K w.params).In g) (T : Top tq lz mean mg mb g) (F : Fr g L s.heap m) (N : News g L s.heap ((L + 1 + 1 + 1 + 1 + 1 + 1 + 1 + 1, o8) :: (L + 1 + 1 + 1 + 1 + 1 + 1 + 1, oH) :: (L + 1 + 1 + 1 + 1 + 1 + 1, oR) :: (rw, PySem.W.listOf rv.toArray kr) :: more)) (d8 : o8.data = .cell none) (dR : oR.data = .cell (some (.ref rw))) (hrv : IntsAre rv ((List.range (kk + 1)).map fun i => (r i : Int))) (hkk : kk ≤ 100)
    (h8 : ∀ q ∈ (L + 1 + 1 + 1 + 1 + 1 + 1 + 1, oH) :: (L + 1 + 1 + 1 + 1 + 1 + 1, oR) :: (rw, PySem.W.listOf rv.toArray kr) :: more, @Ne Nat q.1 (L + 1 + 1 + 1 + 1 + 1 + 1 + 1 + 1))
    (hdone : ∀ h tk ln (ys : Array Value) kl o8', o8'.data = .cell (some (.ref ln)) → IntsAre ys.toList ((List.range (kk + 1)).map (lineI r)) → (∀ q ∈ (L + 1 + 1 + 1 + 1 + 1 + 1 + 1 + 1, o8') :: (L + 1 + 1 + 1 + 1 + 1 + 1 + 1, oH) :: (L + 1 + 1 + 1 + 1 + 1 + 1, oR) :: (rw, PySem.W.listOf rv.toArray kr) :: more, @Ne Nat q.1 ln) → Fr g L h m → News g L h ((ln, PySem.W.listOf ys kl) :: (L + 1 + 1 + 1 + 1 + 1 + 1 + 1 + 1, o8') :: (L + 1 + 1 + 1 + 1 + 1 + 1 + 1, oH) :: (L + 1 + 1 + 1 + 1 + 1 + 1, oR) :: (rw, PySem.W.listOf rv.toArray kr) :: more) → Q .next { s with heap := h, toks := tk }) :
    wpAny (model pw w) (lA L fa cd) (exec lwE0 (lenv L fa cd)) Q E s := by
  have hrl : rv.length = kk + 1 := by rw [hrv.length]; simp
  k_steps
  have S4 : Stand g L _ _ s.heap := ⟨F, N⟩
  show wpAny _ _ (eval (Expr.ListComp _ _ _ _) _) _ _ _
  refine' comp_range (g := g) (L := L) (news := _) (fun _ => true) (LineF r) rfl 0 (kk + 1) ?clos ?cell ?kind ?names ?x S4 ?hi ?hz ?hsm ?ht ?he ?hQ
  case clos => rfl
  case cell => decide +kernel
  case kind => rfl
  case names => decide +kernel
  case x => decide +kernel
  case hz => rw [sizeLine_eq]; omega
  case hsm => exact small_one (by omega) (by omega) (by omega) (by omega)
  case hi =>
    k_steps
    exact RangePost.mk' (by assumption) (by simp [hrl]) (by assumption) (by assumption)
  case ht =>
    intro C i v s₃ m₃ E' hv hns hm S
    simp only [List.forIn_nil]
    exact wpAny_pure ⟨rfl, _, _, rfl, fun _ _ e => e⟩
  case he =>
    intro C4 j v s₃ m₃ E' hv hp hns hm S
    obtain ⟨hv1, t1, rfl⟩ := hv
    obtain ⟨F8, N8⟩ := S
    have hi9 : IntsAre rv.toArray.toList ((List.range (kk + 1)).map fun i => (r i : Int)) := by rw [List.toList_toArray]; exact hrv
    have hb : (0 : Int) ≤ 0 + (j : Int) ∧ 0 + (j : Int) < 1000000 ∧ (0 + (j : Int)).toNat < ((List.range (kk + 1)).map fun i => (r i : Int)).length := by
      simp; omega
    have hgd : ((List.range (kk + 1)).map fun i => (r i : Int)).getD (0 + (j : Int)).toNat 0 = r j := by
      rw [show (0 + (j : Int)).toNat = j by omega, List.getD_eq_getElem?_getD, List.getElem?_map, List.getElem?_range (by omega)]; rfl
    have hpar : (0 + (j : Int)).fmod 2 = ((j % 2 : Nat) : Int) := by
      rw [Int.fmod_eq_emod_of_nonneg _ (by omega)]; omega
    iterate 30 (try (first | (k_unfold; (try dsimp only)) | walk1 | (dsimp only; walk1)))
    all_goals (iterate 14 (try (first | (k_unfold; (try dsimp only)) | walk1 | (dsimp only; walk1))))
    all_goals (first | exact ⟨_, _, rfl, fun _ _ e => e⟩ | skip)
    · refine LineF.mk ?_
      rw [hgd]
      have h9 := (by assumption : Int.fmod _ 2 = 1)
      rw [hpar] at h9
      unfold lineI
      rw [if_pos (by omega)]
    · refine LineF.mk ?_
      rw [hgd]
      have h9 := (by assumption : Int.fmod _ 2 ≠ 1)
      rw [hpar] at h9
      unfold lineI
      rw [if_neg (by omega)]
  case hQ =>
    intro D h2 tk2 ys k2 vs F2 N2 hne hlen hP hF
    rw [List.filter_eq_self.mpr (fun _ _ => rfl)] at hF
    simp only [List.forall_mem_cons] at hne
    have hys : IntsAre ys.toList ((List.range (kk + 1)).map (lineI r)) := by
      have := pair_ints (f := lineI r) (fun i t y hf => by
        obtain ⟨i', ti, u, e1, e2⟩ := hf
        injection e1 with e1
        exact ⟨u, by rw [e2, ← e1, show (0 + (i : Int)).toNat = i by omega]⟩) 0 (by simpa using hP) hF
      rw [hlen, ← List.range_eq_range'] at this
      exact this
    obtain ⟨n1, n2, n3, n4, n5⟩ := hne
    have n1' : @Ne Nat (L + 1 + 1 + 1 + 1 + 1 + 1 + 1 + 1) D := n1
    have n2' : @Ne Nat (L + 1 + 1 + 1 + 1 + 1 + 1 + 1) D := n2
    have n3' : @Ne Nat (L + 1 + 1 + 1 + 1 + 1 + 1) D := n3
    have n4' : @Ne Nat rw D := n4
    simp only [List.forall_mem_cons] at h8
    obtain ⟨b1, b2, b3, b4⟩ := h8
    k_steps
    rename_i h3 o8' F3 N3 d8'
    refine hdone h3 _ D ys k2 o8' d8' hys ?_ F3 N3
    simp only [List.forall_mem_cons]
    exact ⟨n1, n2, n3, n4, n5⟩
end
section
open PySem PySem.W PySem.Calls PyProof.Rows PySem.Spec
set_option maxHeartbeats 2000000
local macro_rules | `(tactic| kpc_none) => `(tactic| grind)
local macro_rules | `(tactic| walk_at "call builtin:len") => `(tactic| (k_here; (with_reducible show wpAny _ _ (call (Value.builtin "len") [Value.ref _]) _ _ _); k_dflt (refine' len_led (by k_asm) (by k_mem) (by ((simp only [List.size_toArray, List.length_append, List.length_cons, List.length_nil]); omega)) ?_)))
noncomputable def LeftF (r : Nat → Nat) (v y : Value) : Prop := ∃ (i : Int) (ti u : Tok), v = .int i ti ∧ y = .int (lineI r i.toNat) u
theorem LeftF.mk {r : Nat → Nat} {j : Nat} {x : Int} {t u : Tok} (e : x = lineI r j) : LeftF r (.int (0 + (j : Int)) t) (.int x u) := ⟨_, _, _, rfl, by rw [show (0 + (j : Int)).toNat = j by omega, e]⟩
theorem law_left (w : World) (mean : ExcName → Option Value) (mg mb : Str → Option Value) (g : Heap) (L fa : Addr) (cd : Value) (base : Heap) (s : Shared) (m : Str → Option Value) (lv : Nat → Nat) (rw ln : Addr) (oR oH o8 : Obj) (kr kl : Nat) (rv : List Value) (lna : Array Value) (r : Nat → Nat) (kk hI : Nat) (tH : Tok) (more : List (Addr × Obj)) (Q : Flow → Shared → Prop) (E : Value → Shared → Prop)
    (B : Below callerA base [] g) (X : (K w.params).In g) (T : Top tq lz mean mg mb g) (F : Fr g L s.heap m) (N : News g L s.heap ((ln, PySem.W.listOf lna kl) :: (L + 1 + 1 + 1 + 1 + 1 + 1 + 1 + 1, o8) :: (L + 1 + 1 + 1 + 1 + 1 + 1 + 1, oH) :: (L + 1 + 1 + 1 + 1 + 1 + 1, oR) :: (rw, PySem.W.listOf rv.toArray kr) :: more)) (d8 : o8.data = .cell (some (.ref ln))) (dR : oR.data = .cell (some (.ref rw))) (dH : oH.data = .cell (some (.int (r hI : Int) tH))) (hrv : IntsAre rv ((List.range (kk + 1)).map fun i => (r i : Int))) (hln : IntsAre lna.toList ((List.range (kk + 1)).map (lineI r))) (hkk : kk ≤ 100) (hIk : hI ≤ kk) (R : RowsOk lv r kk)
    (hdone : ∀ h tk lf (ys : Array Value) kf, IntsAre ys.toList (pushI r hI (kk - hI)) → (∀ q ∈ (ln, PySem.W.listOf lna kl) :: (L + 1 + 1 + 1 + 1 + 1 + 1 + 1 + 1, o8) :: (L + 1 + 1 + 1 + 1 + 1 + 1 + 1, oH) :: (L + 1 + 1 + 1 + 1 + 1 + 1, oR) :: (rw, PySem.W.listOf rv.toArray kr) :: more, @Ne Nat q.1 lf) → Fr g L h (fun z => if z = Str.ofString "left" then some (.ref lf) else m z) → News g L h ((lf, PySem.W.listOf ys kf) :: (ln, PySem.W.listOf lna kl) :: (L + 1 + 1 + 1 + 1 + 1 + 1 + 1 + 1, o8) :: (L + 1 + 1 + 1 + 1 + 1 + 1 + 1, oH) :: (L + 1 + 1 + 1 + 1 + 1 + 1, oR) :: (rw, PySem.W.listOf rv.toArray kr) :: more) → Q .next { s with heap := h, toks := tk }) :
    wpAny (model pw w) (lA L fa cd) (exec lwE1 (lenv L fa cd)) Q E s := by
  have hrl : rv.length = kk + 1 := by rw [hrv.length]; simp
  have hll : lna.size = kk + 1 := by rw [← Array.length_toList, hln.length]; simp
  have S4 : Stand g L _ _ s.heap := ⟨F, N⟩
  have hgd : ∀ j, j ≤ kk → ((List.range (kk + 1)).map fun i => (r i : Int)).getD j 0 = r j := fun j hj => by
    rw [List.getD_eq_getElem?_getD, List.getElem?_map, List.getElem?_range (by omega)]; rfl
  have hgl : ∀ j, j ≤ kk → ((List.range (kk + 1)).map (lineI r)).getD j 0 = lineI r j := fun j hj => by
    rw [List.getD_eq_getElem?_getD, List.getElem?_map, List.getElem?_range (by omega)]; rfl
  refine' asg_range (news := _) (fun v => match v with | .int i _ => decide (hI < i.toNat) | _ => false) (LeftF r) rfl 0 (kk + 1) rfl ?sw ?clos ?cell ?kind ?names ?x ?hy ?hp S4 ?hi ?hz ?hsm ?ht ?he ?hQ
  case sw => with_unfolding_all rfl
  case clos => rfl
  case cell => decide +kernel
  case kind => rfl
  case names => decide +kernel
  case x => decide +kernel
  case hy => rfl
  case hp => rfl
  case hz => rw [sizeLine_eq]; omega
  case hsm => exact small_one (by omega) (by omega) (by omega) (by omega)
  case hi =>
    k_steps
    exact RangePost.mk' (by assumption) (by simp [hrl]) (by assumption) (by assumption)
  case ht =>
    intro C4 j v s₃ m₃ E' hv hns hm S
    obtain ⟨hv1, t1, rfl⟩ := hv
    obtain ⟨F8, N8⟩ := S
    refine wpAny_tests_one ?_
    have hi9 : IntsAre rv.toArray.toList ((List.range (kk + 1)).map fun i => (r i : Int)) := by rw [List.toList_toArray]; exact hrv
    have hb : (0 : Int) ≤ 0 + (j : Int) ∧ 0 + (j : Int) < 1000000 ∧ (0 + (j : Int)).toNat < ((List.range (kk + 1)).map fun i => (r i : Int)).length := by
      simp; omega
    iterate 30 (try (first | (k_unfold; (try dsimp only)) | walk1 | (dsimp only; walk1)))
    · show decide _ = decide (hI < (0 + (j : Int)).toNat)
      rw [show (0 + (j : Int)).toNat = j by omega, hgd j (by omega)]
      refine decide_eq_decide.mpr ⟨fun h => R.mono' hIk (by omega) (by omega), fun h => ?_⟩
      have := R.mono h (by omega)
      omega
    · exact ⟨_, _, rfl, fun _ _ e => e⟩
  case he =>
    intro C4 j v s₃ m₃ E' hv hp hns hm S
    obtain ⟨hv1, t1, rfl⟩ := hv
    obtain ⟨F8, N8⟩ := S
    have hb : (0 : Int) ≤ 0 + (j : Int) ∧ 0 + (j : Int) < 1000000 ∧ (0 + (j : Int)).toNat < ((List.range (kk + 1)).map (lineI r)).length := by
      simp; omega
    iterate 30 (try (first | (k_unfold; (try dsimp only)) | walk1 | (dsimp only; walk1)))
    · exact LeftF.mk (by rw [show (0 + (j : Int)).toNat = j by omega, hgl j (by omega)])
    · exact ⟨_, _, rfl, fun _ _ e => e⟩
  case hQ =>
    intro D h2 tk2 ys k2 vs F2 N2 hne hlen hP hF
    have hfa := filter_above (p := fun v => match v with | .int i _ => decide (hI < i.toNat) | _ => false) (a := hI) (fun i t => by show decide (hI < (0 + (i : Int)).toNat) = _; rw [show (0 + (i : Int)).toNat = i by omega]) 0 (by simpa using hP)
    rw [hfa] at hF
    have hys : IntsAre ys.toList (pushI r hI (kk - hI)) := by
      have := pair_ints (f := lineI r) (fun i t y hf => by
        obtain ⟨i', ti, u, e1, e2⟩ := hf
        injection e1 with e1
        exact ⟨u, by rw [e2, ← e1, show (0 + (i : Int)).toNat = i by omega]⟩) (hI + 1) (fun j v hj => by
          rw [List.getElem?_drop] at hj
          have := hP _ v hj
          obtain ⟨t, e⟩ := this
          exact ⟨t, by rw [e, Nat.sub_zero]⟩) hF
      rw [List.length_drop, hlen] at this
      unfold pushI
      rw [show kk - hI = kk + 1 - (hI + 1 - 0) by omega]
      exact this
    exact hdone h2 tk2 D ys k2 hys hne F2 N2
end
section
open PySem PySem.W PySem.Calls PyProof.Rows PySem.Spec
set_option maxHeartbeats 2000000
noncomputable abbrev lwG0 : Stmt := unw (x := .If _ _ _ _) (y := lwG.getD 0 (.Pass default)) (.refl _)
noncomputable def intT (n : Int) : Str := Str.ofString (toString n)
theorem intI_mem {ns : List Int} {its : Array Value} {i : Nat} {v : Value} (h : IntsAre its.toList ns) (hv : its[i]? = some v) : ∃ (n : Int) (t : Tok), v = .int n t ∧ n ∈ ns := by
  have hl : i < ns.length := by
    rw [← h.length, Array.length_toList]
    exact (Array.getElem?_eq_some_iff.mp hv).1
  obtain ⟨t, e⟩ := ints_at h hl
  rw [Array.getElem?_toList, hv] at e
  refine ⟨ns[i], t, ?_, List.getElem_mem hl⟩
  rw [Option.some.inj e, List.getD_eq_getElem?_getD, List.getElem?_eq_getElem hl]
  rfl
theorem strs_int : ∀ {vs rs : List Value} {ns : List Int}, IntsAre vs ns → Paired (fun v y => ∃ n t u, v = Value.int n t ∧ y = Value.str (intT n) u) vs rs → StrsAre rs (ns.map intT)
  | _, _, _, .nil, h => by cases h; exact .nil
  | _, _, _, .cons y t h, h' => by
    cases h' with
    | cons a b =>
      obtain ⟨x, t', u, e1, e2⟩ := a
      cases e1
      rw [e2]
      exact .cons _ _ (strs_int h b)
theorem sv_strs : ∀ {vs : List Value} {xs : List Str}, StrsAre vs xs → SV vs xs
  | _, _, .nil => trivial
  | _, _, .cons y t h => ⟨⟨t, rfl⟩, sv_strs h⟩
theorem ofs_ok (x : String) : PyData.strOk (Str.ofString x) = true := by
  rw [Str.ofString_eq_toList]
  show Array.all _ _ = true
  rw [Array.all_eq_true']
  intro n hn
  simp only [List.mem_toArray, List.mem_map] at hn
  obtain ⟨c, _, rfl⟩ := hn
  have := c.valid
  refine decide_eq_true ?_
  show c.val.toNat < 0x110000
  unfold UInt32.isValidChar Nat.isValidChar at this
  omega
theorem intT_ok (ns : List Int) : strsOk (ns.map intT) = true := by
  unfold strsOk
  rw [List.all_eq_true]
  intro x hx
  obtain ⟨n, _, rfl⟩ := List.mem_map.mp hx
  exact ofs_ok _
theorem ne_same {w : World} {A : Around} {E : Value → Shared → Prop} {s : Shared} {g : Heap} {L a b : Addr} {news : List (Addr × Obj)} {xs ys : Array Value} {k1 k2 : Nat} {ts : List Str} {Q : Value → Shared → Prop} (N : News g L s.heap news) (ha : (a, PySem.W.listOf xs k1) ∈ news) (hb : (b, PySem.W.listOf ys k2) ∈ news) (hi : StrsAre xs.toList ts) (hj : StrsAre ys.toList ts) (ho : strsOk ts = true) (hu : A.units + 64 < cLine)
    (h : Q (.bool false) s) : wpAny (model pw w) A (compareOp .NotEq (.ref a) (.ref b)) Q E s := by
  refine ne_strs (vs := xs.toList) (us := ys.toList) (by rw [Array.toArray_toList]; exact (N _ ha).1) (by rw [Array.toArray_toList]; exact (N _ hb).1) (sv_strs hi) (sv_strs hj) ho ho hu ?_
  rw [decide_eq_true rfl]; exact h
local macro_rules | `(tactic| walk_at "compareOp NotEq ref ref") => `(tactic| (k_here; k_dflt (refine' ne_same (by k_asm) (by k_mem) (by k_mem) (by assumption) (by assumption) (by exact intT_ok _) (by k_units) ?_)))
inductive UI1 (w : World) (p : LP) (L : Addr) (oX : Obj) (lf : Addr) (ya : Array Value) (kf : Nat) (tn1 : Tok) (us : List Value) (k1 : Nat) (ns : List Int) (more : List (Addr × Obj)) (i : Nat) (ys : List Value) (nx : List (Addr × Obj)) : Prop
  | mk (pv' : List Value) (kp' : Nat) (q0 : nx = (lf, PySem.W.listOf ya kf) :: (L + 1 + 1 + 1 + 1 + 1, oX) :: (p.pl, PySem.W.listOf pv'.toArray kp') :: (lexL w p 1 tn1 us k1 ++ more)) (q1 : IntsAre pv' (ns.drop i)) (q2 : StrsAre ys ((ns.take i).map intT)) : UI1 w p L oX lf ya kf tn1 us k1 ns more i ys nx
theorem law_13 (w : World) (mean : ExcName → Option Value) (mg mb : Str → Option Value) (g : Heap) (L fa : Addr) (cd : Value) (base : Heap) (s : Shared) (m : Str → Option Value) (p : LP) (T9 : Int) (cs : List Nat) (tn1 : Tok) (us : List Value) (k1 : Nat) (more : List (Addr × Obj)) (lf : Addr) (ya : Array Value) (kf kp : Nat) (oX : Obj) (pv : List Value) (ns : List Int) (Q : Flow → Shared → Prop) (E : Value → Shared → Prop)
    (B : Below callerA base [] g) (X : (K w.params).In g) (T : Top tq lz mean mg mb g) (C7 : CodeHd g 147 143) (F : Fr g L s.heap m) (N : News g L s.heap ((lf, PySem.W.listOf ya kf) :: (L + 1 + 1 + 1 + 1 + 1, oX) :: (p.pl, PySem.W.listOf pv.toArray kp) :: (lexL w p 1 tn1 us k1 ++ more))) (e1 : m (Str.ofString "left") = some (.ref lf)) (dX : oX.data = .cell (some (.ref p.x))) (hl : LexAt w p T9 cs (lexL w p 1 tn1 us k1)) (O : p.Far)
    (hya : IntsAre ya.toList ns) (hpv : IntsAre pv ns) (hns : ns.length ≤ 100) (hsm : ∀ n ∈ ns, -1000 ≤ n ∧ n ≤ 1000) (hP : ∀ q ∈ (lf, PySem.W.listOf ya kf) :: (L + 1 + 1 + 1 + 1 + 1, oX) :: more, q.1 ∉ p.pl :: lxA p)
    (hdone : ∀ h tk kp', Fr g L h m → News g L h ((lf, PySem.W.listOf ya kf) :: (L + 1 + 1 + 1 + 1 + 1, oX) :: (p.pl, PySem.W.listOf #[] kp') :: (lexL w p 1 tn1 us k1 ++ more)) → Q .next { s with heap := h, toks := tk }) :
    wpAny (model pw w) (lA L fa cd) (exec lwG0 (lenv L fa cd)) Q E s := by
  have hyl : ya.size = ns.length := by rw [← Array.length_toList, hya.length]
  k_steps
  show wpAny _ _ (eval (Expr.ListComp _ _ _ _) _) _ _ _
  refine' comp_listU (fun i ys nx => UI1 w p L oX lf ya kf tn1 us k1 ns more i ys nx) rfl F N (.head _) ?clos ?cell ?kind ?names ?x ?hi ?hz ?hJ ?turn ?done
  case clos => rfl
  case cell => decide +kernel
  case kind => rfl
  case names => decide +kernel
  case x => decide +kernel
  case hz => rw [sizeLine_eq]; omega
  case hJ => exact ⟨pv, kp, rfl, by simpa using hpv, .nil⟩
  case hi =>
    intro Q' hq
    k_steps
    exact hq
  case turn =>
    rintro i v I oI C4 oC D m₂ ys _ h tk E' hv ⟨pv', kp', rfl, hpv', hys⟩ hC hx F2 N2 off ne
    obtain ⟨ne1, ne2, ne3⟩ := ne
    have hin : i < ns.length := by
      have := (Array.getElem?_eq_some_iff.mp hv).1
      omega
    have hdr : ns.drop i = ns[i] :: ns.drop (i + 1) := List.drop_eq_getElem_cons hin
    rw [hdr] at hpv'
    obtain ⟨tv, pv2, rfl, hpv2⟩ := ints_cons hpv'
    have hpl : pv2.length ≤ 100 := by rw [hpv2.length, List.length_drop]; omega
    have hadr : ∀ b ∈ p.pl :: lxA p, (@Ne Nat b I) ∧ (@Ne Nat b C4) ∧ (@Ne Nat b D) := by
      simp only [List.forall_mem_cons]
      exact ⟨off (p.pl, _) (by k_mem), off (p.x, _) (by k_mem), off (p.d, _) (by k_mem), off (p.y, _) (by k_mem), off (p.dy, _) (by k_mem), off (p.f, _) (by k_mem), off (p.c, _) (by k_mem), off (p.cc, _) (by k_mem), off (p.sl, _) (by k_mem), fun b hb => nomatch hb⟩
    k_steps
    show wpAny _ _ (call (.ref 42) [.ref p.x]) _ _ _
    refine pop_use (rest := (I, oI) :: (C4, oC) :: (D, LCg.lst ys) :: (lf, PySem.W.listOf ya kf) :: (L + 1 + 1 + 1 + 1 + 1, oX) :: more) (k2 := kp') (vs := pv2) ⟨g, C7⟩ O hl (by rw [sizeLine_eq]; simp only [List.length_cons]; omega) B F2 X N2 (by kcf_all) (fun q hq => ⟨?_, ?_⟩) T rfl (by k_room) (by k_units) ?_
    · revert q hq; kcf_all
    · rcases List.mem_cons.mp hq with rfl | hq
      · exact fun hb => (hadr _ hb).1 rfl
      · rcases List.mem_cons.mp hq with rfl | hq
        · exact fun hb => (hadr _ hb).2.1 rfl
        · rcases List.mem_cons.mp hq with rfl | hq
          · exact fun hb => (hadr _ hb).2.2 rfl
          · exact hP q hq
    intro h5 tk5 F5 N5
    have hb9 := hsm ns[i] (List.getElem_mem hin)
    k_steps
    refine UEnd.intro ((lf, PySem.W.listOf ya kf) :: (L + 1 + 1 + 1 + 1 + 1, oX) :: (p.pl, PySem.W.listOf pv2.toArray (kp' + 1)) :: (lexL w p 1 tn1 us k1 ++ more)) (by assumption) (by assumption) (by kcf_all) ?_ (.inr ⟨_, .head _, rfl, _, rfl⟩) ⟨pv2, kp' + 1, rfl, hpv2, ?_⟩
    · intro q hq
      rcases List.mem_cons.mp hq with rfl | hq
      · exact off _ (.head _)
      · rcases List.mem_cons.mp hq with rfl | hq
        · exact off _ (.tail _ (.head _))
        · rcases List.mem_cons.mp hq with rfl | hq
          · exact off (p.pl, PySem.W.listOf (Value.int ns[i] tv :: pv2).toArray kp') (.tail _ (.tail _ (.head _)))
          · exact off q (.tail _ (.tail _ (.tail _ hq)))
    · rw [List.take_add_one, List.getElem?_eq_getElem hin, Option.toList_some, List.map_append]
      exact strs_app hys (.cons _ _ .nil)
  case done =>
    rintro D h tk ys _ ⟨pv', kp', rfl, hpv', hys⟩ hyl2 F2 N2 off
    have hnil : pv' = [] := by
      rw [hyl, List.drop_length] at hpv'
      cases hpv'; rfl
    subst hnil
    rw [hyl, List.take_length] at hys
    simp only [List.forall_mem_cons] at off
    k_steps
    have S4 : Stand g L _ _ h := ⟨F2, N2⟩
    show wpAny _ _ (eval (Expr.ListComp _ _ _ _) _) _ _ _
    refine' comp_list (g := g) (L := L) (news := _) (fun _ => true) (fun v y => ∃ n t u, v = .int n t ∧ y = .str (intT n) u) rfl lf ya kf ?clos2 ?cell2 ?kind2 ?names2 ?x2 ?hi2 ?hz2 S4 ?hl2 ?ht2 ?he2 ?hQ2
    case clos2 => rfl
    case cell2 => decide +kernel
    case kind2 => rfl
    case names2 => decide +kernel
    case x2 => decide +kernel
    case hl2 => k_mem
    case hz2 => rw [sizeLine_eq]; omega
    case hi2 =>
      intro Q' hq
      k_steps
      exact hq
    case ht2 =>
      intro C i v s₃ m₃ E' hv hns hm S
      simp only [List.forIn_nil]
      exact wpAny_pure ⟨rfl, _, _, rfl, fun _ _ e => e⟩
    case he2 =>
      intro C5 i v s₃ m₃ E' hv hp hns9 hm S
      obtain ⟨F8, N8⟩ := S
      obtain ⟨n9, t9, rfl, hn9⟩ := intI_mem hya hv
      have hb9 := hsm n9 hn9
      iterate 30 (try (first | (k_unfold; (try dsimp only)) | walk1 | (dsimp only; walk1)))
      exact ⟨_, _, rfl, fun _ _ e => e⟩
    case hQ2 =>
      intro D2 h2 tk2 ys2 k2 vs2 F3 N3 hne2 hvs2 hF2
      rw [List.filter_eq_self.mpr (fun _ _ => rfl), hvs2] at hF2
      have hys2 := strs_int hya hF2
      have hys1 : StrsAre ys.toArray.toList (ns.map intT) := by rw [List.toList_toArray]; exact hys
      k_steps
      exact hdone _ _ kp' (by assumption) (news_sub (by assumption : News _ _ _ _) (by kcf_all))
end
section
open PySem PySem.W PySem.Calls PyProof.Rows PySem.Spec
set_option maxHeartbeats 2000000
noncomputable abbrev lwG1 : Stmt := unw (x := .Assign _ _ _) (y := lwG.getD 1 (.Pass default)) (.refl _)
noncomputable def remK (cs : List Nat) : Nat → List Nat
  | 0 => cs
  | i + 1 => (tokR (remK cs i)).2
noncomputable def tokK (cs : List Nat) (i : Nat) : Str := (tokR (remK cs i)).1
inductive VI1 (w : World) (p : LP) (L : Addr) (oX : Obj) (kp : Nat) (T9 : Int) (cs : List Nat) (more : List (Addr × Obj)) (i : Nat) (ys : List Value) (nx : List (Addr × Obj)) : Prop
  | mk (lx' : List (Addr × Obj)) (q0 : nx = (L + 1 + 1 + 1 + 1 + 1, oX) :: (p.pl, PySem.W.listOf #[] kp) :: (lx' ++ more)) (q1 : LexAt w p T9 (remK cs i) lx') (q2 : StrsAre ys ((List.range i).map (tokK cs))) : VI1 w p L oX kp T9 cs more i ys nx
theorem law_14 (w : World) (mean : ExcName → Option Value) (mg mb : Str → Option Value) (g : Heap) (L fa : Addr) (cd : Value) (base : Heap) (s : Shared) (m : Str → Option Value) (p : LP) (T9 : Int) (cs : List Nat) (lx more : List (Addr × Obj)) (kp : Nat) (oX : Obj) (Q : Flow → Shared → Prop) (E : Value → Shared → Prop)
    (B : Below callerA base [] g) (X : (K w.params).In g) (T : Top tq lz mean mg mb g) (C7 : CodeHd g 147 143) (F : Fr g L s.heap m) (N : News g L s.heap ((L + 1 + 1 + 1 + 1 + 1, oX) :: (p.pl, PySem.W.listOf #[] kp) :: (lx ++ more))) (dX : oX.data = .cell (some (.ref p.x))) (hl : LexAt w p T9 cs lx) (O : p.Far) (P : p.Ok)
    (ho : ∀ i, okCs (remK cs i)) (hz : ∀ i, (remK cs i).length + 2 ≤ sizeLine) (hP : ∀ q ∈ (L + 1 + 1 + 1 + 1 + 1, oX) :: more, q.1 ∉ p.pl :: lxA p)
    (hdone : ∀ h tk D ys lx', StrsAre ys [tokK cs 0, tokK cs 1, tokK cs 2] → LexAt w p T9 (remK cs 3) lx' → Fr g L h (fun z => if z = Str.ofString "words" then some (.ref D) else m z) → News g L h ((D, LCg.lst ys) :: (L + 1 + 1 + 1 + 1 + 1, oX) :: (p.pl, PySem.W.listOf #[] kp) :: (lx' ++ more)) → (∀ q ∈ (L + 1 + 1 + 1 + 1 + 1, oX) :: (p.pl, PySem.W.listOf #[] kp) :: (lx' ++ more), @Ne Nat q.1 D) → Q .next { s with heap := h, toks := tk }) :
    wpAny (model pw w) (lA L fa cd) (exec lwG1 (lenv L fa cd)) Q E s := by
  refine' asg_rangeU (a := 0) (n := 3) (fun i ys nx => VI1 w p L oX kp T9 cs more i ys nx) rfl F N rfl ?sw ?clos ?cell ?kind ?names ?x ?hy ?hp ?hi ?hz ?hsm ?hJ ?turn ?done
  case sw => with_unfolding_all rfl
  case clos => rfl
  case cell => decide +kernel
  case kind => rfl
  case names => decide +kernel
  case x => decide +kernel
  case hy => rfl
  case hp => rfl
  case hz => rw [sizeLine_eq]; omega
  case hsm => exact small_one (by omega) (by omega) (by omega) (by omega)
  case hJ => exact ⟨lx, rfl, hl, .nil⟩
  case hi =>
    k_steps
    exact RangePost.mk' (by assumption) (by omega) (by assumption) (by assumption)
  case turn =>
    rintro i t I oI C4 oC D m₂ ys _ h tk E' hi3 ⟨lx', rfl, hl', hys⟩ hC hx F2 N2 off ne
    obtain ⟨ne1, ne2, ne3⟩ := ne
    obtain ⟨n1, tn1, us, k1, rfl, hv, hT⟩ := id hl'
    have hadr : ∀ b ∈ p.pl :: lxA p, (@Ne Nat b I) ∧ (@Ne Nat b C4) ∧ (@Ne Nat b D) := by
      simp only [List.forall_mem_cons]
      exact ⟨off (p.pl, _) (by k_mem), off (p.x, _) (by k_mem), off (p.d, _) (by k_mem), off (p.y, _) (by k_mem), off (p.dy, _) (by k_mem), off (p.f, _) (by k_mem), off (p.c, _) (by k_mem), off (p.cc, _) (by k_mem), off (p.sl, _) (by k_mem), fun b hb => nomatch hb⟩
    k_steps
    show wpAny _ _ (call (.ref 42) [.ref p.x]) _ _ _
    refine word_use (rest := (I, oI) :: (C4, oC) :: (D, LCg.lst ys) :: (L + 1 + 1 + 1 + 1 + 1, oX) :: more) (k2 := kp) ⟨g, C7⟩ P O hl' (ho i) (hz i) B F2 X N2 (by kcf_all) (fun q hq => ⟨?_, ?_⟩) T rfl (by k_room) (by k_units) ?_
    · revert q hq; kcf_all
    · rcases List.mem_cons.mp hq with rfl | hq
      · exact fun hb => (hadr _ hb).1 rfl
      · rcases List.mem_cons.mp hq with rfl | hq
        · exact fun hb => (hadr _ hb).2.1 rfl
        · rcases List.mem_cons.mp hq with rfl | hq
          · exact fun hb => (hadr _ hb).2.2 rfl
          · exact hP q hq
    intro lx5 t5 h5 tk5 hl5 F5 N5
    have hl5' := hl5
    obtain ⟨n5, tn5, us5, k5, rfl, hv5, hT5⟩ := hl5
    k_steps
    refine UEnd.intro ((L + 1 + 1 + 1 + 1 + 1, oX) :: (p.pl, PySem.W.listOf #[] kp) :: (lexL w p n5 tn5 us5 k5 ++ more)) (by assumption) (by assumption) (by kcf_all) ?_ trivial ⟨_, rfl, hl5', ?_⟩
    · intro q hq
      rcases List.mem_cons.mp hq with rfl | hq
      · exact off _ (.head _)
      · rcases List.mem_cons.mp hq with rfl | hq
        · exact hadr p.pl (.head _)
        · rcases List.mem_append.mp hq with hq | hq
          · have : q.1 ∈ lxA p := by
              rw [← hl5'.addr]; exact List.mem_map_of_mem hq
            exact hadr q.1 (.tail _ this)
          · exact off q (.tail _ (.tail _ (List.mem_append_right _ hq)))
    · rw [List.range_succ, List.map_append]
      exact strs_app hys (.cons _ _ .nil)
  case done =>
    rintro D h tk ys _ ⟨lx', rfl, hl', hys⟩ hyl F2 N2 off
    exact hdone h tk D ys lx' hys hl' F2 N2 off
end
section
open PySem PySem.W PySem.Calls PyProof.Rows PySem.Spec
set_option maxHeartbeats 2000000
noncomputable abbrev lwG2 : Stmt := unw (x := .If _ _ _ _) (y := lwG.getD 2 (.Pass default)) (.refl _)
noncomputable abbrev lwG3 : Stmt := unw (x := .If _ _ _ _) (y := lwG.getD 3 (.Pass default)) (.refl _)
noncomputable abbrev lwG4 : Stmt := unw (x := .If _ _ _ _) (y := lwG.getD 4 (.Pass default)) (.refl _)
local macro_rules | `(tactic| walk_at "call ref") => `(tactic| (k_here; (with_reducible show wpAny _ _ (call (Value.ref 181) _) _ _ _); refine stop_intro ?_))
local macro_rules | `(tactic| walk_at "compareOp NotEq ref ref") => `(tactic| (k_here; k_dflt (refine' ne_same (by k_asm) (by k_mem) (by k_mem) (by assumption) (by (repeat' (first | exact StrsAre.nil | refine StrsAre.cons _ _ ?_))) (by assumption) (by k_units) ?_)))
theorem law_15 (w : World) (mean : ExcName → Option Value) (mg mb : Str → Option Value) (g : Heap) (L fa : Addr) (cd : Value) (base : Heap) (s : Shared) (m : Str → Option Value) (p : LP) (n1 : Int) (tn1 : Tok) (us : List Value) (k1 : Nat) (more : List (Addr × Obj)) (kp : Nat) (oX : Obj) (D tA : Addr) (ys : List Value) (va : Array Value) (ps : List Int) (fe : Int) (tF : Tok) (Q : Flow → Shared → Prop) (E : Value → Shared → Prop)
    (B : Below callerA base [] g) (X : (K w.params).In g) (T : Top tq lz mean mg mb g) (F : Fr g L s.heap m) (N : News g L s.heap ((D, LCg.lst ys) :: (L + 1 + 1 + 1 + 1 + 1, oX) :: (tA, PySem.W.listOf va 0) :: (lexL w p n1 tn1 us k1 ++ more))) (dX : oX.data = .cell (some (.ref p.x)))
    (e1 : m (Str.ofString "words") = some (.ref D)) (e2 : m (Str.ofString "signs") = some (.ref tA)) (e3 : m (Str.ofString "feeds") = some (.int fe tF)) (hS : StrsAre va.toList (textS ps)) (hlen : (textS ps).length ≤ 16)
    (hys : StrsAre ys [Txt.join (Str.ofString "") (textS ps), Str.ofString "\x0b\x0b", Str.ofString "z\"\n#\n"]) (hok : strsOk [Txt.join (Str.ofString "") (textS ps), Str.ofString "\x0b\x0b", Str.ofString "z\"\n#\n"] = true) (hn : n1 = 4 + fe)
    (hdone : ∀ h tk, Fr g L h m → News g L h ((D, LCg.lst ys) :: (L + 1 + 1 + 1 + 1 + 1, oX) :: (tA, PySem.W.listOf va 0) :: (lexL w p n1 tn1 us k1 ++ more)) → Q .next { s with heap := h, toks := tk }) :
    wpAny (model pw w) (lA L fa cd) (exec lwG2 (lenv L fa cd)) Q E s := by
  have hw9 : ((textS ps).map (·.length)).sum + (textS ps).length ≤ 1048576 := by
    have := sum_short (l := textS ps) (b := 1) fun x hx => Nat.le_of_eq (textS_one ps x hx)
    omega
  have hys1 : StrsAre ys.toArray.toList [Txt.join (Str.ofString "") (textS ps), Str.ofString "\x0b\x0b", Str.ofString "z\"\n#\n"] := by rw [List.toList_toArray]; exact hys
  subst hn
  k_steps
  · exfalso; omega
  · exact hdone _ _ (by assumption) (news_sub (by assumption : News _ _ _ _) (by kcf_all))
theorem law_16 (w : World) (mean : ExcName → Option Value) (mg mb : Str → Option Value) (g : Heap) (L fa : Addr) (cd : Value) (base : Heap) (s : Shared) (m : Str → Option Value) (p : LP) (T9 : Int) (cs : List Nat) (lx more : List (Addr × Obj)) (kp : Nat) (oX oM : Obj) (tB : Addr) (vb : Array Value) (ps : List Int) (fe : Int) (tF : Tok) (Q : Flow → Shared → Prop) (E : Value → Shared → Prop)
    (B : Below callerA base [] g) (X : (K w.params).In g) (T : Top tq lz mean mg mb g) (C7 : CodeHd g 147 143) (F : Fr g L s.heap m) (N : News g L s.heap ((p.pl, PySem.W.listOf #[] kp) :: (lx ++ (L + 1 + 1 + 1 + 1 + 1, oX) :: (L + 1, oM) :: (tB, PySem.W.listOf vb 0) :: more))) (dX : oX.data = .cell (some (.ref p.x))) (dM : oM.data = .cell (some (.ref tB))) (hl : LexAt w p T9 cs lx) (O : p.Far) (P : p.Ok)
    (e3 : m (Str.ofString "feeds") = some (.int fe tF)) (hM : StrsAre vb.toList (textM ps)) (hlen : (textM ps).length ≤ 16) (ho : okCs cs) (hz : cs.length + 2 ≤ sizeLine) (hP : ∀ q ∈ (L + 1 + 1 + 1 + 1 + 1, oX) :: (L + 1, oM) :: (tB, PySem.W.listOf vb 0) :: more, q.1 ∉ p.pl :: lxA p)
    (hsz : (tokR cs).1.cps.size ≤ 1000) (heq : Txt.join (Str.ofString "") (prepL w.params (tokR cs).1.cps.toList) = Txt.join (Str.ofString "") (textM ps)) (hn : T9 - ((tokR cs).2.count 10 : Nat) = 4 + 2 * fe)
    (hdone : ∀ h tk lx', LexAt w p T9 (tokR cs).2 lx' → Fr g L h m → News g L h ((p.pl, PySem.W.listOf #[] kp) :: (lx' ++ (L + 1 + 1 + 1 + 1 + 1, oX) :: (L + 1, oM) :: (tB, PySem.W.listOf vb 0) :: more)) → Q .next { s with heap := h, toks := tk }) :
    wpAny (model pw w) (lA L fa cd) (exec lwG3 (lenv L fa cd)) Q E s := by
  have hms := textM_short ps
  have hw9 : ((textM ps).map (·.length)).sum + (textM ps).length ≤ 1048576 := by
    have := sum_short (l := textM ps) (b := 3) hms
    omega
  obtain ⟨n1, tn1, us, k1, rfl, hv, hT⟩ := id hl
  k_steps
  show wpAny _ _ (call (.ref 42) [.ref p.x]) _ _ _
  refine word_use (rest := (L + 1 + 1 + 1 + 1 + 1, oX) :: (L + 1, oM) :: (tB, PySem.W.listOf vb 0) :: more) (k2 := kp) ⟨g, C7⟩ P O hl ho hz B (by assumption) X N (by kcf_all) (fun q hq => ⟨?_, hP q hq⟩) T rfl (by k_room) (by k_units) ?_
  · revert q hq; kcf_all
  intro lx5 t5 h5 tk5 hl5 F5 N5
  k_steps
  show wpAny _ _ (call (.ref 181) _) _ _ _
  refine prep_use hsz B F5 X N5 T rfl (by k_room) (by k_units) ?_
  intro t4 h4 tk6 F4 N4
  rw [heq]
  have hl5' := hl5
  obtain ⟨n5, tn5, us5, k5, rfl, hv5, hT5⟩ := hl5
  have hn5 : n5 = 4 + 2 * fe := by omega
  subst hn5
  k_steps
  · exact absurd (by assumption : (_ != _) = true) (by simp)
  · exfalso; omega
  · exact hdone _ _ _ hl5' (by assumption) (news_sub (by assumption : News _ _ _ _) (by kcf_all))
theorem law_17 (w : World) (mean : ExcName → Option Value) (mg mb : Str → Option Value) (g : Heap) (L fa : Addr) (cd : Value) (base : Heap) (s : Shared) (m : Str → Option Value) (p : LP) (T9 : Int) (cs : List Nat) (lx more : List (Addr × Obj)) (kp : Nat) (oX : Obj) (Q : Flow → Shared → Prop) (E : Value → Shared → Prop)
    (B : Below callerA base [] g) (X : (K w.params).In g) (T : Top tq lz mean mg mb g) (C7 : CodeHd g 147 143) (F : Fr g L s.heap m) (N : News g L s.heap ((p.pl, PySem.W.listOf #[] kp) :: (lx ++ (L + 1 + 1 + 1 + 1 + 1, oX) :: more))) (dX : oX.data = .cell (some (.ref p.x))) (hl : LexAt w p T9 cs lx) (O : p.Far) (P : p.Ok)
    (ho : okCs cs) (hz : cs.length + 2 ≤ sizeLine) (hP : ∀ q ∈ (L + 1 + 1 + 1 + 1 + 1, oX) :: more, q.1 ∉ p.pl :: lxA p) (heq : (tokR cs).1 = Str.ofString "")
    (hdone : ∀ h tk, Fr g L h m → News g L h more → Q .next { s with heap := h, toks := tk }) :
    wpAny (model pw w) (lA L fa cd) (exec lwG4 (lenv L fa cd)) Q E s := by
  obtain ⟨n1, tn1, us, k1, rfl, hv, hT⟩ := id hl
  k_steps
  show wpAny _ _ (call (.ref 42) [.ref p.x]) _ _ _
  refine word_use (rest := (L + 1 + 1 + 1 + 1 + 1, oX) :: more) (k2 := kp) ⟨g, C7⟩ P O hl ho hz B (by assumption) X N (by kcf_all) (fun q hq => ⟨?_, hP q hq⟩) T rfl (by k_room) (by k_units) ?_
  · revert q hq; kcf_all
  intro lx5 t5 h5 tk5 hl5 F5 N5
  rw [heq]
  k_steps
  exact hdone _ _ (by assumption) (news_sub (by assumption : News _ _ _ _) (by kcf_all))
end
section
open PySem PySem.W PySem.Calls PyProof.Rows PySem.Spec
set_option maxHeartbeats 2000000
local macro_rules | `(tactic| kpc_none) => `(tactic| grind)
noncomputable def cutF (r : Nat → Nat) (m : Nat) : Nat → Nat → Nat
  | 0, n => n
  | fu + 1, n => match (List.range m).find? (fun k => decide (r k < n) && decide (n < r (k + 1))) with
    | some k => cutF r m fu (n - r k)
    | none => n
theorem cut_some {r : Nat → Nat} {m n k : Nat} (h : (List.range m).find? (fun k => decide (r k < n) && decide (n < r (k + 1))) = some k) : k < m ∧ r k < n ∧ n < r (k + 1) := by
  have h1 := List.find?_some h
  have h2 := List.mem_of_find?_eq_some h
  simp only [Bool.and_eq_true, decide_eq_true_eq] at h1
  exact ⟨List.mem_range.mp h2, h1.1, h1.2⟩
theorem cutF_stable {lv r : Nat → Nat} {m : Nat} (R : RowsOk lv r m) : ∀ (fu fu' n : Nat), n ≤ fu → n ≤ fu' → cutF r m fu n = cutF r m fu' n := by
  intro fu
  induction fu with
  | zero =>
    intro fu' n h1 h2
    have : n = 0 := by omega
    subst this
    cases fu' with
    | zero => rfl
    | succ fu' =>
      show 0 = cutF r m (fu' + 1) 0
      unfold cutF
      split
      · rename_i k hk
        have := (cut_some hk).2.1
        omega
      · rfl
  | succ fu ih =>
    intro fu' n h1 h2
    cases fu' with
    | zero =>
      have : n = 0 := by omega
      subst this
      show cutF r m (fu + 1) 0 = 0
      unfold cutF
      split
      · rename_i k hk
        have := (cut_some hk).2.1
        omega
      · rfl
    | succ fu' =>
      unfold cutF
      split
      · rename_i k hk
        obtain ⟨a, b, c⟩ := cut_some hk
        have := R.pos k (by omega)
        exact ih fu' (n - r k) (by omega) (by omega)
      · rfl
theorem lastPart_exists {lv r : Nat → Nat} {m : Nat} (R : RowsOk lv r m) : ∃ f, LastPart r m f := by
  refine ⟨fun n => cutF r m n n, ?_, ?_⟩
  · intro k hk
    show cutF r m (r k) (r k) = r k
    cases h9 : r k with
    | zero => rfl
    | succ q =>
      unfold cutF
      split
      · rename_i i hi
        obtain ⟨a, b, c⟩ := cut_some hi
        rw [← h9] at b c
        have z1 := R.mono' (by omega) b hk
        have z2 := R.mono' hk c (by omega)
        omega
      · rfl
  · intro k n hk h1 h2
    show cutF r m n n = cutF r m (n - r k) (n - r k)
    have hp := R.pos k (by omega)
    cases n with
    | zero => omega
    | succ n =>
      have hf : (List.range m).find? (fun i => decide (r i < n + 1) && decide (n + 1 < r (i + 1))) = some k := by
        cases h9 : (List.range m).find? (fun i => decide (r i < n + 1) && decide (n + 1 < r (i + 1))) with
        | none =>
          have := List.find?_eq_none.mp h9 k (List.mem_range.mpr hk)
          simp at this
          omega
        | some i =>
          obtain ⟨a, b, c⟩ := cut_some h9
          have z1 := R.mono' (i := i) (j := k + 1) (by omega) (by omega) (by omega)
          have z2 := R.mono' (i := k) (j := i + 1) (by omega) (by omega) (by omega)
          have : i = k := by omega
          rw [this]
      have e1 : cutF r m (n + 1) (n + 1) = cutF r m n (n + 1 - r k) := by
        conv => lhs; unfold cutF
        rw [hf]
      rw [e1]
      exact cutF_stable R _ _ _ (by omega) (Nat.le_refl _)
noncomputable def CompAt (w : World) (A : Around) (g : Heap) (L : Addr) (m : Str → Option Value) (env : Env) (elt : PySem.Expr) (ifs : List PySem.Expr) (x : Str) (scope : Scope) (cl : List (Str × Addr)) (p : Value → Bool) (F : Value → Value → Prop) (Q : Value → Shared → Prop) (v : Value) (s : Shared) : Prop :=
  ∃ (l : Addr) (items : Array Value) (kl : Nat) (news : List (Addr × Obj)), v = .ref l ∧ items.size ≤ sizeLine ∧ Stand g L m news s.heap ∧ (l, PySem.W.listOf items kl) ∈ news ∧
    (∀ C (i : Nat) v s₃ m₃ E', items[i]? = some v → s₃.heap.Ns C m₃ → m₃ x = some v → Stand g L m news s₃.heap →
        wpAny (model pw w) A (forIn ifs true fun c r => if r = true then do let ok ← isTrue c (compEnvC scope cl C env) (eval c (compEnvC scope cl C env)); pure (ForInStep.yield ok) else pure (ForInStep.yield r))
          (fun ok s₄ => ok = p v ∧ Keeps s₃ s₄) E' s₃) ∧
    (∀ C (i : Nat) v s₃ m₃ E', items[i]? = some v → p v = true → s₃.heap.Ns C m₃ → m₃ x = some v → Stand g L m news s₃.heap →
        wpAny (model pw w) A (eval elt (compEnvC scope cl C env)) (fun y s₄ => F v y ∧ Keeps s₃ s₄) E' s₃) ∧
    (∀ D h' tk ys k (vs : List Value), Fr g L h' m → News g L h' ((D, PySem.W.listOf ys k) :: news) → (∀ q ∈ news, @Ne Nat q.1 D) → vs = items.toList → Paired F (vs.filter p) ys.toList → Q (.ref D) { s with heap := h', toks := tk })
section
variable {w : World} {A : Around} {E : Value → Shared → Prop} {s : Shared} {env : Env} {g : Heap} {L : Addr} {m : Str → Option Value}
theorem comp_listE {elt iter : PySem.Expr} {x : Str} {px : Pos} {ifs : List PySem.Expr} {scope : Scope} {cl : List (Str × Addr)} {pos : Pos} {Q : Value → Shared → Prop} (p : Value → Bool) (F : Value → Value → Prop) (hh : A.handled = none) (_ : Fr g L s.heap m)
    (hclos : closureFor scope env = pure cl) (hcell : ∀ y ∈ scope.names, y.2 ≠ .cell) (hkind : scope.kind = .function)
    (hnames : ∀ y ∈ scope.names, y.2 = .local → scope.names.lookup y.1 = some .local) (hx : scope.names.lookup x = some .local)
    (h : wpAny (model pw w) A (eval iter env) (CompAt w A g L m env elt ifs x scope cl p F Q) E s)
    (hs : ∀ x, foldedSetIterable iter env x = pure x := by intro _; rfl) :
    wpAny (model pw w) A (eval (.ListComp elt [⟨.Name x px, iter, ifs, 0⟩] scope pos) env) Q E s := by
  refine wpAny_ListComp_free p F hclos hcell hkind hnames hx (wpAny_mono h (fun xv s₁ h₁ => ?_) fun _ _ e => e) hs
  obtain ⟨l, items, kl, news, rfl, hz, S, hl, ht, he, hQ⟩ := h₁
  have hls := (S.2 _ hl).1
  have hlt := Heap.lt_size hls
  refine wpAny_pyIter_list (items := items) ⟨_, hls, rfl, _, rfl⟩ ?_
  have Ap := apart_new S
  have S₁ : Stand g L m news (s₁.heap.push { cls := .type "list_iterator", data := .fields #[.ref l, .int 0 0] }) := S.push _
  refine ⟨_, _, [s₁.heap.objs.size], _, _, _, rfl, Walks.list hh s₁.heap.objs.size l (Nat.ne_of_lt hlt) items, hz, ⟨⟨_, Heap.get?_push_size _ rfl, rfl, rfl⟩, ⟨_, Heap.get?_push_of_some _ hls, rfl, _, rfl⟩⟩, ?_, ⟨?_, ?_⟩, ?_⟩
  · intro b hb
    show b < (s₁.heap.push _).objs.size
    rw [Heap.size_push]
    rcases List.mem_cons.mp hb with rfl | hb
    · exact Nat.lt_succ_self _
    · rw [List.mem_singleton.mp hb]; exact Nat.lt_succ_of_lt hlt
  · intro C i v s₃ m₃ E' _ hP hns hm hk _
    exact ht C i v s₃ m₃ E' hP hns hm (S₁.but Ap hk)
  · intro C i v s₃ m₃ E' _ hP hp hns hm hk _
    exact he C i v s₃ m₃ E' hP hp hns hm (S₁.but Ap hk)
  · intro D h' tk ys vs hD _ hpl hlen hP hF hk
    obtain ⟨k, hk'⟩ := hpl
    have S' := S₁.but Ap hk
    have hvs : vs = items.toList := by
      apply List.ext_getElem?
      intro j
      by_cases hj : j < vs.length
      · rw [List.getElem?_eq_getElem hj]
        have := hP j vs[j] (List.getElem?_eq_getElem hj)
        rw [← this]; simp
      · rw [List.getElem?_eq_none (by omega), List.getElem?_eq_none (by rw [Array.length_toList]; omega)]
    refine hQ D h' tk ys k vs S'.1 (fun q hq => ?_) (fun q hq e => ?_) hvs hF
    · rcases List.mem_cons.mp hq with rfl | hq
      · refine ⟨hk', ?_, ?_⟩
        · rintro rfl
          obtain ⟨o, _, _, e, _⟩ := S₁.1.ns
          rw [hD] at e; cases e
        · cases e : g.get? D with
          | none => rfl
          | some o => have := S₁.1.keep _ _ e; rw [hD] at this; cases this
      · exact S'.2 q hq
    · have h9 := (S₁.2 q hq).1
      have e9 : q.1 = D := e
      rw [e9, hD] at h9; cases h9
end
theorem paired_at {α β : Type} {F : α → β → Prop} : ∀ {l : List α} {ys : List β}, Paired F l ys → ys.length = l.length ∧ ∀ (i : Nat) (v : α), l[i]? = some v → ∃ y, ys[i]? = some y ∧ F v y
  | _, _, .nil => ⟨rfl, fun i v h => by simp at h⟩
  | _, _, .cons (a := a) (b := b) h1 h2 => by
    obtain ⟨e, ih⟩ := paired_at h2
    refine ⟨by simp [e], fun i v h => ?_⟩
    cases i with
    | zero => exact ⟨b, rfl, by simp at h; rw [← h]; exact h1⟩
    | succ i => exact ih i v (by simpa using h)
theorem strs_at_all : ∀ {ys : List Value} {ts : List Str}, ys.length = ts.length → (∀ (i : Nat) (t : Str), ts[i]? = some t → ∃ u, ys[i]? = some (Value.str t u)) → StrsAre ys ts
  | [], [], _, _ => .nil
  | [], _ :: _, h, _ => by cases h
  | _ :: _, [], h, _ => by cases h
  | y :: ys, t :: ts, h, hA => by
    obtain ⟨u, e⟩ := hA 0 t rfl
    have e' : y = .str t u := by simpa using e
    rw [e']
    exact .cons _ _ (strs_at_all (by simpa using h) fun i t' ht => by simpa using hA (i + 1) t' (by simpa using ht))
end
section
open PySem PySem.W PySem.Calls PyProof.Rows PySem.Spec
set_option maxHeartbeats 2000000
local macro_rules | `(tactic| kpc_none) => `(tactic| grind)

noncomputable abbrev lwG5 : Stmt := unw (x := .Return _ _) (y := lwG.getD 5 (.Pass default)) (.refl _)
theorem last_use {w : World} {mean : ExcName → Option Value} {mg mb : Str → Option Value} {dp un : Nat} {gd : Option (List Code)} {cn : Str} {cs₀ : Scope} {a : Addr} {ccd : Value} {cl : List (Str × Addr)} {outer : List Env} {A₀ : Around} {base h₀ : Heap} {L : Addr} {m : Str → Option Value} {s : Shared} {Q E : Value → Shared → Prop}
    {all more : List (Addr × Obj)} {rR rL : Addr} {rv lv : Array Value} {kr kl : Nat} {lw r f : Nat → Nat} {M : Nat} (hM : M ≤ 1000) (R9 : RowsOk lw r M) (L9 : LastPart r M f) (hr : IntsAre rv.toList ((List.range (M + 1)).map fun k => (r k : Int))) (hl : IntsAre lv.toList ((List.range (M + 1)).map (lineI r))) {n : Nat} {x : Int} {tn : Tok} (hx : x = n) (h1 : 1 ≤ n) (h2 : n ≤ r M) (hne : @Ne Nat rR rL)
    (B : Below A₀ base outer h₀) (F : Fr h₀ L s.heap m) (X : (K w.params).In h₀) (N : News h₀ L s.heap all) (hs : ∀ q ∈ (rR, PySem.W.listOf rv kr) :: (rL, PySem.W.listOf lv kl) :: more, q ∈ all) (T : Top tq lz mean mg mb h₀) (hk : cs₀.kind = .function) (hd : dp + 80 < recursionLimit) (hu : un + 800 < cLine)
    (h : ∀ t h' tk', Fr h₀ L h' m → News h₀ L h' ((rR, PySem.W.listOf rv kr) :: (rL, PySem.W.listOf lv kl) :: more) → Q (.int (f n) t) { s with heap := h', toks := tk' }) :
    wpAny (model pw w) (ktrTop dp un gd cn cs₀ L a ccd cl outer) (call (.ref 186) [.int x tn, .ref rR, .ref rL]) Q E s := by
  subst hx
  refine wpAny_call (last_c w mean mg mb more rR rL rv lv kr kl lw r f M hM R9 L9 hr hl n tn h1 h2 hne dp un gd cn cs₀ a ccd cl outer A₀ base h₀ L m s _ B F X (news_sub N hs) T hk hd hu ?_)
  rintro v' h' tk' news' ⟨rfl, t, rfl⟩ F' N'
  exact h t h' tk' F' N'
theorem eq_same {w : World} {A : Around} {E : Value → Shared → Prop} {s : Shared} {g : Heap} {L a b : Addr} {news : List (Addr × Obj)} {xs ys : Array Value} {k1 k2 : Nat} {ts : List Str} {Q : Value → Shared → Prop} (N : News g L s.heap news) (ha : (a, PySem.W.listOf xs k1) ∈ news) (hb : (b, PySem.W.listOf ys k2) ∈ news) (hi : StrsAre xs.toList ts) (hj : StrsAre ys.toList ts) (ho : strsOk ts = true) (hu : A.units + 64 < cLine)
    (h : Q (.bool true) s) : wpAny (model pw w) A (compareOp .Eq (.ref a) (.ref b)) Q E s := by
  refine eq_strs (vs := xs.toList) (us := ys.toList) (by rw [Array.toArray_toList]; exact (N _ ha).1) (by rw [Array.toArray_toList]; exact (N _ hb).1) (sv_strs hi) (sv_strs hj) ho ho hu ?_
  rw [decide_eq_true rfl]; exact h
noncomputable def WonF (wi : List (Addr × Obj)) (v y : Value) : Prop := ∃ a its kk n t u, v = .ref a ∧ (a, PySem.W.listOf its kk) ∈ wi ∧ its.toList.head? = some (.int n t) ∧ y = .str (intT n) u
local macro_rules | `(tactic| walk_at "call ref") => `(tactic| (k_here; refine stop_intro ?_))
local macro_rules | `(tactic| walk_at "subscriptTail Name Slice ref ref") => `(tactic| (k_here; k_dflt (refine' kms_slice_lit (by k_asm) (by k_asm) (by kmk_list) (by kmk_part) (by kmk_part) rfl ?_ (by with_unfolding_all rfl) (by kmk_pure) (by (rw [sizeLine_eq]; (simp only [List.size_toArray]); omega))); intro D' h' F' N' l1; (try k_lt l1)))
local macro_rules | `(tactic| walk_at "subscriptTail") => `(tactic| (k_here; k_dflt (refine' sub_list (by k_asm) (by assumption) (by assumption) (by with_unfolding_all rfl) (by (intro _; with_unfolding_all rfl)) ?_)))
local macro_rules | `(tactic| walk_at "compareOp Eq ref ref") => `(tactic| (k_here; k_dflt (refine' eq_same (by k_asm) (by k_mem) (by k_mem) (by assumption) (by assumption) (by assumption) (by k_units) ?_)))
theorem law_18 (w : World) (mean : ExcName → Option Value) (mg mb : Str → Option Value) (g : Heap) (L fa : Addr) (cd : Value) (base : Heap) (s : Shared) (m : Str → Option Value) (lv : Nat → Nat) (W : Nat) (tW : Tok) (o8 oR oW : Obj) (ln rw wn : Addr) (lna rva : Array Value) (kl kr kw : Nat) (wv : List Value) (wi more : List (Addr × Obj)) (r : Nat → Nat) (kk : Nat) (Q : Flow → Shared → Prop) (E : Value → Shared → Prop)
    (B : Below callerA base [] g) (X : (K w.params).In g) (T : Top tq lz mean mg mb g) (F : Fr g L s.heap m) (N : News g L s.heap ((L + 1 + 1 + 1 + 1 + 1 + 1 + 1 + 1, o8) :: (L + 1 + 1 + 1 + 1 + 1 + 1, oR) :: (L + 1 + 1 + 1, oW) :: (ln, PySem.W.listOf lna kl) :: (rw, PySem.W.listOf rva kr) :: (wn, PySem.W.listOf wv.toArray kw) :: (wi ++ more))) (d8 : o8.data = .cell (some (.ref ln))) (dR : oR.data = .cell (some (.ref rw))) (dW : oW.data = .cell (some (.ref wn))) (e2 : m (Str.ofString "whole") = some (.int W tW)) (hW : W ≤ 16)
    (hwin : WinsAt lv W wv wi) (R : RowsOk lv r kk) (hmono : ∀ a b, a ≤ b → lv a ≤ lv b) (hr : IntsAre rva.toList ((List.range (kk + 1)).map fun i => (r i : Int))) (hln : IntsAre lna.toList ((List.range (kk + 1)).map (lineI r))) (hkk : kk ≤ 100) (hWr : W ≤ r kk) (hne : @Ne Nat rw ln)
    (hdone : ∀ h tk all, (∀ q ∈ more, q ∈ all) → Fr g L h m → News g L h all → Q (.ret (.bool true)) { s with heap := h, toks := tk }) :
    wpAny (model pw w) (lA L fa cd) (exec lwG5 (lenv L fa cd)) Q E s := by
  obtain ⟨f, LP9⟩ := lastPart_exists R
  have hsch := schwenk R LP9 hmono
  have hwl := hwin.1
  have hfn : ∀ n, 1 ≤ n → n ≤ W → 1 ≤ f n ∧ f n ≤ n := fun n h1 h2 => part_le R LP9 n h1 (by omega)
  k_steps
  show wpAny _ _ (eval (Expr.ListComp _ _ _ _) _) _ _ _
  refine' comp_listE (fun _ => true) (WonF wi) rfl F ?clos ?cell ?kind ?names ?x ?h
  case clos => rfl
  case cell => decide +kernel
  case kind => rfl
  case names => decide +kernel
  case x => decide +kernel
  case h =>
    k_steps
    rename_i D' h' F' N' l1
    have hpk : (kms_pick wv.toArray.toList (some 1) none).toArray.toList = wv.drop 1 := by
      rw [List.toList_toArray, List.toList_toArray]; unfold kms_pick
      have e1 : kms_lo (some 1) wv.length = 1 := by unfold kms_lo; simp; omega
      have e2 : kms_hi none wv.length = wv.length := rfl
      rw [e1, e2, List.take_of_length_le (by rw [List.length_drop]; omega)]
    refine ⟨D', _, 0, _, rfl, ?zz, ⟨F', N'⟩, .head _, ?ht, ?he, ?hQ⟩
    case zz => rw [← Array.length_toList, hpk, sizeLine_eq, List.length_drop]; omega
    case ht =>
      intro C i v s₃ m₃ E' _ _ _ _
      simp only [List.forIn_nil]
      exact wpAny_pure ⟨rfl, _, _, rfl, fun _ _ e => e⟩
    case he =>
      intro C i v s₃ m₃ E' hv hp hns hm S
      obtain ⟨F8, N8⟩ := S
      rw [← Array.getElem?_toList, hpk, List.getElem?_drop] at hv
      have hi : i + 1 ≤ W := by
        have := (List.getElem?_eq_some_iff.mp hv).1
        omega
      obtain ⟨a, its, kj, e3, ha, hints⟩ := hwin.2 (i + 1) hi
      rw [Nat.add_comm i 1] at e3
      have hv9 : v = .ref a := by rw [hv] at e3; exact Option.some.inj e3
      subst hv9
      have hh9 := (hsch (i + 1) (by omega) (by omega)).1
      have hfb := hfn (i + 1) (by omega) (by omega)
      obtain ⟨t9, ht9⟩ : ∃ t, its.toList.head? = some (.int (f (i + 1) : Int) t) := by
        cases e9 : (winsUp lv (i + 1)).getD (i + 1) [] with
        | nil => rw [e9] at hh9; cases hh9
        | cons x xs =>
          rw [e9] at hh9 hints
          have hx : x = f (i + 1) := by simpa using hh9
          subst hx
          obtain ⟨t, us, e, _⟩ := ints_cons hints
          exact ⟨t, by rw [e]; rfl⟩
      have hsub : (0 : Int) ≤ 0 ∧ (0 : Int) < 9223372036854775808 ∧ its[(0 : Int).toNat]? = some (.int (f (i + 1) : Int) t9) := by
        refine ⟨by omega, by omega, ?_⟩
        rw [← Array.getElem?_toList]
        show its.toList[0]? = _
        rw [← List.head?_eq_getElem?]
        exact ht9
      have hmem : (a, PySem.W.listOf its kj) ∈ (D', PySem.W.listOf (kms_pick wv.toArray.toList (some 1) none).toArray 0) :: ((L + 1 + 1 + 1 + 1 + 1 + 1 + 1 + 1, o8) :: (L + 1 + 1 + 1 + 1 + 1 + 1, oR) :: (L + 1 + 1 + 1, oW) :: (ln, PySem.W.listOf lna kl) :: (rw, PySem.W.listOf rva kr) :: (wn, PySem.W.listOf wv.toArray kw) :: (wi ++ more)) := by
        simp only [List.mem_cons, List.mem_append]
        simp only [ha, true_or, or_true]
      have hb9 : (-1000 : Int) ≤ (f (i + 1) : Int) ∧ (f (i + 1) : Int) ≤ 1000 := by omega
      iterate 30 (try (first | (k_unfold; (try dsimp only)) | walk1 | (dsimp only; walk1)))
      · exact ⟨a, its, kj, (f (i + 1) : Int), t9, _, rfl, ha, ht9, rfl⟩
      · exact ⟨_, _, rfl, fun _ _ e => e⟩
    case hQ =>
      intro D2 h2 tk2 ys2 k2 vs2 F3 N3 hne2 hvs2 hF2
      rw [List.filter_eq_self.mpr (fun _ _ => rfl), hvs2, hpk] at hF2
      have hys' : StrsAre ys2.toList ((List.range W).map fun j => intT ((f (j + 1) : Nat) : Int)) := by
        obtain ⟨hlen, hat⟩ := paired_at hF2
        refine strs_at_all (by rw [hlen, List.length_drop, List.length_map, List.length_range]; omega) ?_
        intro i t ht
        rw [List.getElem?_map] at ht
        obtain ⟨j, hj, rfl⟩ := Option.map_eq_some_iff.mp ht
        have hj2 := List.getElem?_eq_some_iff.mp hj
        obtain ⟨hj3, hj4⟩ := hj2
        rw [List.length_range] at hj3
        rw [List.getElem_range] at hj4
        subst hj4
        obtain ⟨a, its, kj, e3, ha, hints⟩ := hwin.2 (i + 1) (by omega)
        have e4 : (wv.drop 1)[i]? = some (.ref a) := by rw [List.getElem?_drop, Nat.add_comm 1 i]; exact e3
        obtain ⟨y, hy, hWF⟩ := hat i _ e4
        obtain ⟨a', its', kk', n', t', u', e5, ha', hh', rfl⟩ := hWF
        have e6 : a = a' := by injection e5
        subst e6
        have m1 := (N3 (a, PySem.W.listOf its kj) (by simp only [List.mem_cons, List.mem_append]; simp only [ha, true_or, or_true])).1
        have m2 := (N3 (a, PySem.W.listOf its' kk') (by simp only [List.mem_cons, List.mem_append]; simp only [ha', true_or, or_true])).1
        have e7 : PySem.W.listOf its kj = PySem.W.listOf its' kk' := by
          have := m1.symm.trans m2
          exact Option.some.inj this
        have e8 : its = its' := by
          unfold PySem.W.listOf at e7
          injection e7 with q1 q2 q3 q4
          injection q3
        subst e8
        have hh9 := (hsch (i + 1) (by omega) (by omega)).1
        cases e9 : (winsUp lv (i + 1)).getD (i + 1) [] with
        | nil => rw [e9] at hh9; cases hh9
        | cons x xs =>
          rw [e9] at hh9 hints
          have hx : x = f (i + 1) := by simpa using hh9
          subst hx
          obtain ⟨t, us, e, _⟩ := ints_cons hints
          rw [e] at hh'
          have : n' = ((f (i + 1) : Nat) : Int) := by
            have := Option.some.inj hh'
            injection this with q1 q2
            exact q1.symm
          subst this
          exact ⟨_, hy⟩
      have hok : strsOk ((List.range W).map fun j => intT ((f (j + 1) : Nat) : Int)) = true := by
        have := intT_ok ((List.range W).map fun j => ((f (j + 1) : Nat) : Int))
        rw [List.map_map] at this
        exact this
      k_steps
      show wpAny _ _ (eval (Expr.ListComp _ _ _ _) _) _ _ _
      refine' comp_rangeU (a := 1) (n := W) (fun i ys nx => nx = (D2, PySem.W.listOf ys2 k2) :: (D', PySem.W.listOf (kms_pick wv.toArray.toList (some 1) none).toArray 0) :: (L + 1 + 1 + 1 + 1 + 1 + 1 + 1 + 1, o8) :: (L + 1 + 1 + 1 + 1 + 1 + 1, oR) :: (L + 1 + 1 + 1, oW) :: (ln, PySem.W.listOf lna kl) :: (rw, PySem.W.listOf rva kr) :: (wn, PySem.W.listOf wv.toArray kw) :: (wi ++ more) ∧ StrsAre ys ((List.range i).map fun j => intT ((f (j + 1) : Nat) : Int))) rfl F3 N3 ?clos2 ?cell2 ?kind2 ?names2 ?x2 ?hi2 ?hz2 ?hsm2 ?hJ2 ?turn2 ?done2
      case clos2 => rfl
      case cell2 => decide +kernel
      case kind2 => rfl
      case names2 => decide +kernel
      case x2 => decide +kernel
      case hz2 => rw [sizeLine_eq]; omega
      case hsm2 => exact small_one (by omega) (by omega) (by omega) (by omega)
      case hi2 =>
        k_steps
        exact ⟨_, _, _, _, _, _, rfl, rfl, by (rw [Int.add_comm]; assumption), by assumption, by assumption⟩
      case hJ2 => exact ⟨rfl, .nil⟩
      case turn2 =>
        rintro i t I oI C oC D m₂ ys _ h tk E' hlt ⟨rfl, hys⟩ hC hx F4 N4 off ne
        obtain ⟨ne1, ne2, ne3⟩ := ne
        have hb9 := hfn (i + 1) (by omega) (by omega)
        have hb8 : (-1000 : Int) ≤ (f (i + 1) : Int) ∧ (f (i + 1) : Int) ≤ 1000 := by omega
        iterate 16 (try (first | (k_unfold; (try dsimp only)) | walk1 | (dsimp only; walk1)))
        show wpAny _ _ (call (.ref 186) [_, .ref rw, .ref ln]) _ _ _
        refine last_use (more := (I, oI) :: (C, oC) :: (D, LCg.lst ys) :: (D2, PySem.W.listOf ys2 k2) :: (D', PySem.W.listOf (kms_pick wv.toArray.toList (some 1) none).toArray 0) :: (L + 1 + 1 + 1 + 1 + 1 + 1 + 1 + 1, o8) :: (L + 1 + 1 + 1 + 1 + 1 + 1, oR) :: (L + 1 + 1 + 1, oW) :: (wn, PySem.W.listOf wv.toArray kw) :: (wi ++ more)) (n := i + 1) (hM := by omega) R LP9 hr hln (by omega) (by omega) (by omega) hne B F4 X N4 (by kcf_all) T rfl (by k_room) (by k_units) ?_
        intro t8 h8 tk8 F8 N8
        k_steps
        refine UEnd.intro ((D2, PySem.W.listOf ys2 k2) :: (D', PySem.W.listOf (kms_pick wv.toArray.toList (some 1) none).toArray 0) :: (L + 1 + 1 + 1 + 1 + 1 + 1 + 1 + 1, o8) :: (L + 1 + 1 + 1 + 1 + 1 + 1, oR) :: (L + 1 + 1 + 1, oW) :: (ln, PySem.W.listOf lna kl) :: (rw, PySem.W.listOf rva kr) :: (wn, PySem.W.listOf wv.toArray kw) :: (wi ++ more)) (by assumption) (by assumption) (by kcf_all) off trivial ⟨rfl, ?_⟩
        rw [List.range_succ, List.map_append]
        exact strs_app hys (.cons _ _ .nil)
      case done2 =>
        rintro D3 h3 tk3 ys _ ⟨rfl, hys⟩ hyl3 F4 N4 off
        have hys1 : StrsAre ys.toArray.toList ((List.range W).map fun j => intT ((f (j + 1) : Nat) : Int)) := by rw [List.toList_toArray]; exact hys
        iterate 6 (try (first | (k_unfold; (try dsimp only)) | walk1 | (dsimp only; walk1)))
        exact hdone _ _ _ (fun q hq => by simp only [List.mem_cons, List.mem_append]; simp only [hq, or_true]) F4 N4
end
section
open PySem PySem.W PySem.Calls PyProof.Rows PySem.Spec
set_option maxHeartbeats 2000000
noncomputable def fold4 (P : Params) (c : Nat) : Str := match (((ES P).toList.find? fun e : DictEntry => Value.isInt (c : Int) e.key).map (fun e : DictEntry => e.val)) with | some (Value.str x _) => x | _ => Txt.lower ⟨#[c]⟩
theorem fold_eq (P : Params) (c : Nat) : fold3 P c = fold4 P c := by
  unfold fold3 fold4 findBy
  rw [Array.find?_toList]
  try rfl
noncomputable def prepC (P : Params) (c : Nat) : List Nat := if isB1 P (c : Nat) then [] else (fold4 P c).cps.toList
noncomputable def one1 (P : Params) (b : Bool) (s m : Str) : Option Bool :=
  match s.cps.toList with
  | [c] => if c < 0x110000 then
      (if !b && c == 92 then (if m.cps.toList == [] then some true else none)
       else if !b && c == 34 then none
       else if m.cps.toList == prepC P c then some false else none) else none
  | _ => none
noncomputable def runP (P : Params) : Bool → List Str → List Str → Option Bool
  | b, [], [] => some b
  | b, s :: ss, m :: ms => (one1 P b s m).bind fun b' => runP P b' ss ms
  | _, _, _ => none
theorem piece_all0 (P : Params) : (List.range 64).all (fun q => runP P false (pS ((q * 8 + 0 : Nat) : Int)) (pM ((q * 8 + 0 : Nat) : Int)) == some false) = true := by kernel_rfl
theorem piece_all1 (P : Params) : (List.range 64).all (fun q => runP P false (pS ((q * 8 + 1 : Nat) : Int)) (pM ((q * 8 + 1 : Nat) : Int)) == some false) = true := by kernel_rfl
theorem piece_all2 (P : Params) : (List.range 64).all (fun q => runP P false (pS ((q * 8 + 2 : Nat) : Int)) (pM ((q * 8 + 2 : Nat) : Int)) == some false) = true := by kernel_rfl
theorem piece_all3 (P : Params) : (List.range 64).all (fun q => runP P false (pS ((q * 8 + 3 : Nat) : Int)) (pM ((q * 8 + 3 : Nat) : Int)) == some false) = true := by kernel_rfl
theorem piece_all4 (P : Params) : (List.range 64).all (fun q => runP P false (pS ((q * 8 + 4 : Nat) : Int)) (pM ((q * 8 + 4 : Nat) : Int)) == some false) = true := by kernel_rfl
theorem piece_all5 (P : Params) : (List.range 64).all (fun q => runP P false (pS ((q * 8 + 5 : Nat) : Int)) (pM ((q * 8 + 5 : Nat) : Int)) == some false) = true := by kernel_rfl
theorem piece_all6 (P : Params) : (List.range 64).all (fun q => runP P false (pS ((q * 8 + 6 : Nat) : Int)) (pM ((q * 8 + 6 : Nat) : Int)) == some false) = true := by kernel_rfl
theorem piece_all7 (P : Params) : (List.range 64).all (fun q => runP P false (pS ((q * 8 + 7 : Nat) : Int)) (pM ((q * 8 + 7 : Nat) : Int)) == some false) = true := by kernel_rfl
theorem piece_run (P : Params) (n : Int) (h1 : 0 ≤ n) (h2 : n < 512) : runP P false (pS n) (pM n) = some false := by
  obtain ⟨k, rfl⟩ := Int.eq_ofNat_of_zero_le h1
  have hq : k / 8 ∈ List.range 64 := List.mem_range.mpr (by omega)
  have key : ∀ r, r < 8 → k / 8 * 8 + r = k → runP P false (pS (k : Int)) (pM (k : Int)) = some false := by
    intro r hr e
    match r, hr, e with
    | 0, _, e =>
      have h3 := List.all_eq_true.mp (piece_all0 P) _ hq
      rw [e] at h3
      exact eq_of_beq h3
    | 1, _, e =>
      have h3 := List.all_eq_true.mp (piece_all1 P) _ hq
      rw [e] at h3
      exact eq_of_beq h3
    | 2, _, e =>
      have h3 := List.all_eq_true.mp (piece_all2 P) _ hq
      rw [e] at h3
      exact eq_of_beq h3
    | 3, _, e =>
      have h3 := List.all_eq_true.mp (piece_all3 P) _ hq
      rw [e] at h3
      exact eq_of_beq h3
    | 4, _, e =>
      have h3 := List.all_eq_true.mp (piece_all4 P) _ hq
      rw [e] at h3
      exact eq_of_beq h3
    | 5, _, e =>
      have h3 := List.all_eq_true.mp (piece_all5 P) _ hq
      rw [e] at h3
      exact eq_of_beq h3
    | 6, _, e =>
      have h3 := List.all_eq_true.mp (piece_all6 P) _ hq
      rw [e] at h3
      exact eq_of_beq h3
    | 7, _, e =>
      have h3 := List.all_eq_true.mp (piece_all7 P) _ hq
      rw [e] at h3
      exact eq_of_beq h3
    | n + 8, h, _ => exact absurd h (Nat.not_lt.mpr (Nat.le_add_left 8 n))
  exact key (k % 8) (Nat.mod_lt _ (by decide)) (Nat.div_add_mod' k 8)
end
section
open PySem PySem.W PySem.Calls PyProof.Rows PySem.Spec
set_option maxHeartbeats 2000000
noncomputable def codes (l : List Str) : List Nat := (cat l).cps.toList
theorem codes_nil : codes [] = [] := rfl
theorem codes_cons (x : Str) (r : List Str) : codes (x :: r) = x.cps.toList ++ codes r := by
  show (x.cps ++ (cat r).cps).toList = _
  rw [Array.toList_append]; rfl
theorem codes_app (a b : List Str) : codes (a ++ b) = codes a ++ codes b := by
  induction a with
  | nil => rfl
  | cons x a ih => rw [List.cons_append, codes_cons, codes_cons, ih, List.append_assoc]
theorem cat_of_codes {a b : List Str} (h : codes a = codes b) : cat a = cat b := by
  have : (cat a).cps = (cat b).cps := Array.toList_inj.mp h
  cases ha : cat a; cases hb : cat b
  rw [ha, hb] at this
  exact congrArg Str.mk this
theorem join_of_codes {a b : List Str} (h : codes a = codes b) : Txt.join (Str.ofString "") a = Txt.join (Str.ofString "") b := by
  rw [tjoin_cat, tjoin_cat, cat_of_codes h]
theorem prepL_app (P : Params) (a b : List Nat) : prepL P (a ++ b) = prepL P a ++ prepL P b := by
  unfold prepL; rw [List.filter_append, List.map_append]
theorem prepL_one (P : Params) (c : Nat) : codes (prepL P [c]) = prepC P c := by
  unfold prepL prepC
  cases h : isB1 P (c : Nat)
  · rw [List.filter_cons_of_pos (by simp [h])]
    simp [codes_cons, codes_nil, fold_eq]
  · rw [List.filter_cons_of_neg (by simp [h])]
    simp [codes_nil]
theorem one1_is {P : Params} {b b' : Bool} {s m : Str} (h : one1 P b s m = some b') : ∃ c, s = ⟨#[c]⟩ ∧ c < 0x110000 ∧
    ((b = false ∧ c = 92 ∧ m.cps.toList = [] ∧ b' = true) ∨ ((b = true ∨ (c ≠ 92 ∧ c ≠ 34)) ∧ m.cps.toList = prepC P c ∧ b' = false)) := by
  unfold one1 at h
  split at h
  · rename_i c hc
    split at h
    · rename_i hlt
      refine ⟨c, ?_, hlt, ?_⟩
      · cases s with
        | mk a =>
          have : a = #[c] := Array.toList_inj.mp hc
          rw [this]
      · cases b
        · by_cases h1 : c = 92
          · simp [h1] at h
            left; exact ⟨rfl, h1, by rw [h.1], h.2⟩
          · by_cases h2 : c = 34
            · simp [h2] at h
            · simp [h1, h2] at h
              right; exact ⟨.inr ⟨h1, h2⟩, h.1, h.2⟩
        · simp at h
          right; exact ⟨.inl rfl, h.1, h.2⟩
    · cases h
  · cases h
theorem runP_app {P : Params} : ∀ {ss ms ss' ms' : List Str} {b b' b2 : Bool}, runP P b ss ms = some b' → runP P b' ss' ms' = some b2 → runP P b (ss ++ ss') (ms ++ ms') = some b2
  | [], [], _, _, b, b', _, h1, h2 => by
    have : b = b' := by simpa [runP] using h1
    rw [this]; exact h2
  | [], _ :: _, _, _, _, _, _, h1, _ => by simp [runP] at h1
  | _ :: _, [], _, _, _, _, _, h1, _ => by simp [runP] at h1
  | s :: ss, m :: ms, ss', ms', b, b', b2, h1, h2 => by
    simp only [runP, List.cons_append] at h1 ⊢
    cases h : one1 P b s m with
    | none => rw [h] at h1; cases h1
    | some b3 =>
      rw [h] at h1
      exact runP_app (ss := ss) (ms := ms) h1 h2
theorem runP_take {P : Params} : ∀ (k : Nat) {ss ms : List Str} {b b' : Bool}, runP P b ss ms = some b' → ∃ b2, runP P b (ss.take k) (ms.take k) = some b2
  | 0, _, _, b, _, _ => ⟨b, by simp [runP]⟩
  | k + 1, [], [], b, _, _ => ⟨b, by simp [runP]⟩
  | k + 1, [], _ :: _, _, _, h => by simp [runP] at h
  | k + 1, _ :: _, [], _, _, h => by simp [runP] at h
  | k + 1, s :: ss, m :: ms, b, b', h => by
    simp only [runP, List.take_succ_cons] at h ⊢
    cases h9 : one1 P b s m with
    | none => rw [h9] at h; cases h
    | some b3 =>
      rw [h9] at h
      exact runP_take k (ss := ss) (ms := ms) h
theorem text_run (P : Params) {ps : List Int} (hq : ∀ n ∈ ps, 0 ≤ n ∧ n < 512) (hp : ∀ n : Int, 0 ≤ n → n < 512 → runP P false (pS n) (pM n) = some false) : runP P false (ps.flatMap pS) (ps.flatMap pM) = some false := by
  induction ps with
  | nil => rfl
  | cons n r ih =>
    rw [List.flatMap_cons, List.flatMap_cons]
    obtain ⟨h1, h2⟩ := hq n (.head _)
    exact runP_app (hp n h1 h2) (ih fun x hx => hq x (.tail _ hx))
theorem runP_ok {P : Params} : ∀ {ss ms : List Str} {b b' : Bool}, runP P b ss ms = some b' → (∀ s ∈ ss, ∃ c, s = ⟨#[c]⟩ ∧ c < 0x110000)
  | [], _, _, _, _ => by intro s hs; cases hs
  | _ :: _, [], _, _, h => by simp [runP] at h
  | s :: ss, m :: ms, b, b', h => by
    simp only [runP] at h
    cases h9 : one1 P b s m with
    | none => rw [h9] at h; cases h
    | some b3 =>
      rw [h9] at h
      obtain ⟨c, hc, hlt, _⟩ := one1_is h9
      intro x hx
      rcases List.mem_cons.mp hx with rfl | hx
      · exact ⟨c, hc, hlt⟩
      · exact runP_ok h x hx
theorem app_asc (a b c : Str) : a ++ b ++ c = a ++ (b ++ c) := by
  show (⟨a.cps ++ b.cps ++ c.cps⟩ : Str) = ⟨a.cps ++ (b.cps ++ c.cps)⟩
  rw [Array.append_assoc]
theorem scan_run (P : Params) : ∀ (n : Nat) (ss ms : List Str) (acc : Str) (b' : Bool), ss.length ≤ n → runP P false ss ms = some b' →
    ∃ u : List Nat, scan (· == 34) acc (codes ss) = (acc ++ ⟨u.toArray⟩, [], true) ∧ codes (prepL P u) = codes ms ∧ u.length ≤ ss.length := by
  intro n
  induction n with
  | zero =>
    intro ss ms acc b' hn h
    have : ss = [] := List.length_eq_zero_iff.mp (by omega)
    subst this
    cases ms with
    | nil => exact ⟨[], by show (acc, [], true) = (acc ++ ⟨#[]⟩, [], true); rw [show acc ++ (⟨#[]⟩ : Str) = acc from by show (⟨acc.cps ++ #[]⟩ : Str) = acc; simp], rfl, by simp⟩
    | cons m ms => simp [runP] at h
  | succ n ih =>
    intro ss ms acc b' hn h
    cases ss with
    | nil => 
      cases ms with
      | nil => exact ⟨[], by show (acc, [], true) = (acc ++ ⟨#[]⟩, [], true); rw [show acc ++ (⟨#[]⟩ : Str) = acc from by show (⟨acc.cps ++ #[]⟩ : Str) = acc; simp], rfl, by simp⟩
      | cons m ms => simp [runP] at h
    | cons s ss =>
      cases ms with
      | nil => simp [runP] at h
      | cons m ms =>
        simp only [runP] at h
        cases h9 : one1 P false s m with
        | none => rw [h9] at h; cases h
        | some b3 =>
          rw [h9] at h
          have h : runP P b3 ss ms = some b' := h
          obtain ⟨c, rfl, hlt, h7 | h7⟩ := one1_is h9
          · obtain ⟨_, rfl, hm0, rfl⟩ := h7
            cases ss with
            | nil =>
              cases ms with
              | nil =>
                refine ⟨[], ?_, ?_, by simp⟩
                · show (acc, [], true) = (acc ++ ⟨#[]⟩, [], true)
                  rw [show acc ++ (⟨#[]⟩ : Str) = acc from by show (⟨acc.cps ++ #[]⟩ : Str) = acc; simp]
                · rw [codes_cons, hm0]; rfl
              | cons m2 ms => simp [runP] at h
            | cons d ss =>
              cases ms with
              | nil => simp [runP] at h
              | cons m2 ms =>
                simp only [runP] at h
                cases h8 : one1 P true d m2 with
                | none => rw [h8] at h; cases h
                | some b4 =>
                  rw [h8] at h
                  have h : runP P b4 ss ms = some b' := h
                  obtain ⟨d, rfl, hlt2, h6 | h6⟩ := one1_is h8
                  · cases h6.1
                  · obtain ⟨_, hm2, rfl⟩ := h6
                    obtain ⟨u, e1, e2, e3⟩ := ih ss ms (acc ++ ⟨#[d]⟩) b' (by simp at hn; omega) h
                    refine ⟨d :: u, ?_, ?_, by simp; omega⟩
                    · rw [codes_cons, codes_cons]
                      show scan _ acc (92 :: d :: codes ss) = _
                      rw [scan_bs (by decide)]
                      show scan _ (acc ++ ⟨#[d]⟩) (codes ss) = _
                      rw [e1, app_asc]
                      congr 2
                      show (⟨#[d] ++ u.toArray⟩ : Str) = ⟨(d :: u).toArray⟩
                      simp
                    · rw [show d :: u = [d] ++ u from rfl, prepL_app, codes_app, prepL_one, e2, codes_cons, codes_cons, hm0, hm2]
                      rfl
          · obtain ⟨hc, hm0, rfl⟩ := h7
            rcases hc with hc | ⟨hc1, hc2⟩
            · cases hc
            · obtain ⟨u, e1, e2, e3⟩ := ih ss ms (acc ++ ⟨#[c]⟩) b' (by simp at hn; omega) h
              refine ⟨c :: u, ?_, ?_, by simp; omega⟩
              · rw [codes_cons]
                show scan _ acc (c :: codes ss) = _
                rw [scan_ch (by simpa using hc2) hc1, e1, app_asc]
                congr 2
                show (⟨#[c] ++ u.toArray⟩ : Str) = ⟨(c :: u).toArray⟩
                simp
              · rw [show c :: u = [c] ++ u from rfl, prepL_app, codes_app, prepL_one, e2, codes_cons, hm0]
theorem tok_run (P : Params) {ss ms : List Str} {b' : Bool} (h : runP P false ss ms = some b') : ∃ u : List Nat, tokR (34 :: codes ss) = (⟨u.toArray⟩, []) ∧ codes (prepL P u) = codes ms ∧ u.length ≤ ss.length := by
  obtain ⟨u, e1, e2, e3⟩ := scan_run P ss.length ss ms (Str.ofString "") b' (Nat.le_refl _) h
  refine ⟨u, ?_, e2, e3⟩
  show (if isWs 34 then tokR (codes ss) else ((word1 34 (codes ss)).1, (word1 34 (codes ss)).2.1)) = _
  rw [if_neg (by decide)]
  have : word1 34 (codes ss) = scan (· == 34) (Str.ofString "") (codes ss) := by unfold word1; rw [if_pos rfl]
  rw [this, e1]
  congr 1
  show (⟨(Str.ofString "").cps ++ u.toArray⟩ : Str) = _
  have : (Str.ofString "").cps = #[] := by kernel_rfl
  rw [this]; simp
theorem scan_bare (rest : List Nat) : ∀ (ss : List Str) (acc : Str), (∀ s ∈ ss, ∃ c, s = ⟨#[c]⟩ ∧ c < 0x110000) →
    scan isWs acc (codes (ss.map fun x => Str.ofString "\\" ++ x) ++ 32 :: rest) = (⟨acc.cps ++ (cat ss).cps⟩, rest, false) := by
  intro ss
  induction ss with
  | nil =>
    intro acc _
    show scan isWs acc (32 :: rest) = _
    rw [scan_stop (by decide)]
    show (acc, rest, false) = ((⟨acc.cps ++ #[]⟩ : Str), rest, false)
    rw [show (⟨acc.cps ++ #[]⟩ : Str) = acc from by simp]
  | cons s ss ih =>
    intro acc h
    obtain ⟨c, rfl, _⟩ := h s (.head _)
    rw [List.map_cons, codes_cons]
    have e : (Str.ofString "\\" ++ (⟨#[c]⟩ : Str)).cps.toList = [92, c] := by
      show ((Str.ofString "\\").cps ++ #[c]).toList = _
      have : (Str.ofString "\\").cps = #[92] := by kernel_rfl
      rw [this]; rfl
    rw [e]
    show scan isWs acc (92 :: c :: (codes (ss.map fun x => Str.ofString "\\" ++ x) ++ 32 :: rest)) = _
    rw [scan_bs (by decide)]
    show scan isWs (acc ++ ⟨#[c]⟩) (codes (ss.map fun x => Str.ofString "\\" ++ x) ++ 32 :: rest) = _
    rw [ih _ fun x hx => h x (.tail _ hx)]
    congr 1
    show (⟨(acc.cps ++ #[c]) ++ (cat ss).cps⟩ : Str) = ⟨acc.cps ++ (#[c] ++ (cat ss).cps)⟩
    rw [Array.append_assoc]
end
section
open PySem PySem.W PySem.Calls PyProof.Rows PySem.Spec
set_option maxHeartbeats 2000000
local macro_rules | `(tactic| kpc_none) => `(tactic| grind)
theorem textRun (P : Params) {ps : List Int} (hq : ∀ n ∈ ps, 0 ≤ n ∧ n < 512) : ∃ b, runP P false (textS ps) (textM ps) = some b :=
  runP_take 16 (text_run P hq (piece_run P))
noncomputable def LenOk (ms : List Str) : Prop := ∀ t, lvN ms t ≤ t ∧ lvN ms t ≤ ms.length
theorem lv_app (a b : List Str) (t : Nat) : lvN (a ++ b) t = lvN a t + lvN b (t - a.length) := by
  unfold lvN
  rw [List.take_append, cat_app, app_len]
theorem lenOk_app {a b : List Str} (ha : LenOk a) (hb : LenOk b) : LenOk (a ++ b) := by
  intro t
  rw [lv_app, List.length_append]
  have h1 := ha t
  have h2 := hb (t - a.length)
  have h3 := ha a.length
  by_cases h : t ≤ a.length
  · have : t - a.length = 0 := by omega
    rw [this] at h2 ⊢
    omega
  · omega
theorem pM_all : (List.range 512).all (fun n => (pM (n : Int)).length ≤ 3 && (List.range 4).all fun t => lvN (pM (n : Int)) t ≤ t && lvN (pM (n : Int)) t ≤ (pM (n : Int)).length) = true := by kernel_rfl
theorem pM_ok (n : Int) (h1 : 0 ≤ n) (h2 : n < 512) : LenOk (pM n) := by
  obtain ⟨k, rfl⟩ := Int.eq_ofNat_of_zero_le h1
  have h := List.all_eq_true.mp pM_all k (List.mem_range.mpr (by omega))
  rw [Bool.and_eq_true, decide_eq_true_eq] at h
  obtain ⟨h3, h4⟩ := h
  have h5 : ∀ t, t ≤ 3 → lvN (pM (k : Int)) t ≤ t ∧ lvN (pM (k : Int)) t ≤ (pM (k : Int)).length := by
    intro t ht
    have := List.all_eq_true.mp h4 t (List.mem_range.mpr (by omega))
    rw [Bool.and_eq_true, decide_eq_true_eq, decide_eq_true_eq] at this
    exact this
  intro t
  by_cases ht : t ≤ 3
  · exact h5 t ht
  · have e : lvN (pM (k : Int)) t = lvN (pM (k : Int)) 3 := by
      unfold lvN
      rw [List.take_of_length_le (by omega), List.take_of_length_le h3]
    have := h5 3 (by omega)
    omega
theorem flat_ok {ps : List Int} (hq : ∀ n ∈ ps, 0 ≤ n ∧ n < 512) : LenOk (ps.flatMap pM) := by
  induction ps with
  | nil => intro t; unfold lvN; simp only [List.flatMap_nil, List.take_nil]; exact ⟨Nat.zero_le _, Nat.zero_le _⟩
  | cons n r ih =>
    rw [List.flatMap_cons]
    obtain ⟨h1, h2⟩ := hq n (.head _)
    exact lenOk_app (pM_ok n h1 h2) (ih fun x hx => hq x (.tail _ hx))
theorem lv_le {ps : List Int} (hq : ∀ n ∈ ps, 0 ≤ n ∧ n < 512) (t : Nat) : lvN (textM ps) t ≤ t := by
  have e : lvN (textM ps) t = lvN (ps.flatMap pM) (min t 16) := by
    unfold lvN textM
    rw [List.take_take]
  rw [e]
  have := (flat_ok hq (min t 16)).1
  omega
theorem lv_mono (ms : List Str) (a b : Nat) (h : a ≤ b) : lvN ms a ≤ lvN ms b := by
  unfold lvN
  have : ms.take b = ms.take a ++ (ms.drop a).take (b - a) := by
    rw [← List.take_add]; congr 1; omega
  rw [this, cat_app, app_len]
  omega
theorem quoteC : (Str.ofString "\"").cps.toList = [34] := by kernel_rfl
theorem front_is (ps : List Int) (k : Nat) : frontCs ps k = 34 :: codes ((textS ps).take k) := by
  show (Str.ofString "\"" ++ Txt.join (Str.ofString "") ((textS ps).take k)).cps.toList = _
  rw [tjoin_cat]
  show ((Str.ofString "\"").cps ++ (cat ((textS ps).take k)).cps).toList = _
  rw [Array.toList_append, quoteC]
  rfl
theorem codes_ok {ss : List Str} (h : ∀ s ∈ ss, ∃ c, s = ⟨#[c]⟩ ∧ c < 0x110000) : okCs (codes ss) := by
  induction ss with
  | nil => intro c hc; cases hc
  | cons s r ih =>
    intro c hc
    obtain ⟨d, rfl, hd⟩ := h s (.head _)
    rw [codes_cons] at hc
    rcases List.mem_cons.mp hc with rfl | hc
    · exact hd
    · exact ih (fun x hx => h x (.tail _ hx)) c hc
theorem textS_ok (P : Params) {ps : List Int} (hq : ∀ n ∈ ps, 0 ≤ n ∧ n < 512) : ∀ s ∈ textS ps, ∃ c, s = ⟨#[c]⟩ ∧ c < 0x110000 := by
  obtain ⟨b, h⟩ := textRun P hq
  exact runP_ok h
theorem pure_all (P : Params) {ps : List Int} (hp : ps.length = 10) (hq : ∀ n ∈ ps, 0 ≤ n ∧ n < 512) : Pure P ps := by
  obtain ⟨b, hR⟩ := textRun P hq
  have hts := textS_len hp
  have key : ∀ k, ∃ u : List Nat, tokR (frontCs ps k) = (⟨u.toArray⟩, []) ∧ codes (prepL P u) = codes ((textM ps).take k) ∧ u.length ≤ 16 := by
    intro k
    obtain ⟨b2, h2⟩ := runP_take k hR
    obtain ⟨u, e1, e2, e3⟩ := tok_run P h2
    refine ⟨u, by rw [front_is]; exact e1, e2, ?_⟩
    rw [List.length_take] at e3
    omega
  refine ⟨fun k => ?_, fun k => ?_, fun k => ?_, lv_le hq, lv_mono _⟩
  · obtain ⟨u, e1, e2, e3⟩ := key k
    rw [e1]
    exact join_of_codes e2
  · rw [front_is]
    intro c hc
    rcases List.mem_cons.mp hc with rfl | hc
    · decide
    · exact codes_ok (fun x hx => textS_ok P hq x (List.mem_of_mem_take hx)) c hc
  · obtain ⟨u, e1, e2, e3⟩ := key k
    rw [e1]
    show u.toArray.size ≤ 1000
    rw [List.size_toArray]; omega
noncomputable def lexT (ps : List Int) : List Nat := (Str.ofString " \r\n\t" ++ Txt.join (Str.ofString "") ((textS ps).map fun x => Str.ofString "\\" ++ x) ++ Str.ofString " \x0b\x0b \"z\\\"\\\n#\n\"\t\"" ++ Txt.join (Str.ofString "") (textS ps)).cps.toList
noncomputable abbrev bareC (ps : List Int) : List Nat := codes ((textS ps).map fun x => Str.ofString "\\" ++ x)
noncomputable abbrev lexB (ps : List Int) : List Nat := 34 :: 122 :: 92 :: 34 :: 92 :: 10 :: 35 :: 10 :: 34 :: 9 :: 34 :: codes (textS ps)
theorem lexT_is (ps : List Int) : lexT ps = 32 :: 13 :: 10 :: 9 :: (bareC ps ++ 32 :: 11 :: 11 :: 32 :: lexB ps) := by
  unfold lexT
  rw [tjoin_cat, tjoin_cat]
  show (((Str.ofString " \r\n\t").cps ++ (cat ((textS ps).map fun x => Str.ofString "\\" ++ x)).cps ++ (Str.ofString " \x0b\x0b \"z\\\"\\\n#\n\"\t\"").cps) ++ (cat (textS ps)).cps).toList = _
  have e1 : (Str.ofString " \r\n\t").cps.toList = [32, 13, 10, 9] := by kernel_rfl
  have e2 : (Str.ofString " \x0b\x0b \"z\\\"\\\n#\n\"\t\"").cps.toList = [32, 11, 11, 32, 34, 122, 92, 34, 92, 10, 35, 10, 34, 9, 34] := by kernel_rfl
  rw [Array.toList_append, Array.toList_append, Array.toList_append, e1, e2]
  show ([32, 13, 10, 9] ++ bareC ps ++ [32, 11, 11, 32, 34, 122, 92, 34, 92, 10, 35, 10, 34, 9, 34]) ++ codes (textS ps) = _
  simp [lexB]
theorem tok_ws {c : Nat} {r : List Nat} (h : isWs c = true) : tokR (c :: r) = tokR r := by
  show (if isWs c then tokR r else _) = _
  rw [if_pos h]
theorem tok_no {c : Nat} {r : List Nat} (h : isWs c = false) : tokR (c :: r) = ((word1 c r).1, (word1 c r).2.1) := by
  show (if isWs c then tokR r else _) = _
  rw [if_neg (by rw [h]; decide)]
theorem tok0 (P : Params) {ps : List Int} (hp : ps.length = 10) (hq : ∀ n ∈ ps, 0 ≤ n ∧ n < 512) : tokR (lexT ps) = (Txt.join (Str.ofString "") (textS ps), 11 :: 11 :: 32 :: lexB ps) := by
  have hts := textS_len hp
  have hok := textS_ok P hq
  rw [lexT_is, tok_ws (by decide), tok_ws (by decide), tok_ws (by decide), tok_ws (by decide), tjoin_cat]
  unfold bareC
  cases h : textS ps with
  | nil => rw [h] at hts; simp at hts
  | cons s ss =>
    rw [h] at hok
    obtain ⟨c, rfl, _⟩ := hok s (.head _)
    rw [List.map_cons, codes_cons]
    have e : (Str.ofString "\\" ++ (⟨#[c]⟩ : Str)).cps.toList = [92, c] := by
      show ((Str.ofString "\\").cps ++ #[c]).toList = _
      have : (Str.ofString "\\").cps = #[92] := by kernel_rfl
      rw [this]; rfl
    rw [e]
    show tokR (92 :: c :: (codes (ss.map fun x => Str.ofString "\\" ++ x) ++ 32 :: 11 :: 11 :: 32 :: lexB ps)) = _
    rw [tok_no (by decide)]
    have hw : word1 92 (c :: (codes (ss.map fun x => Str.ofString "\\" ++ x) ++ 32 :: 11 :: 11 :: 32 :: lexB ps)) = scan isWs (Str.ofString "" ++ ⟨#[c]⟩) (codes (ss.map fun x => Str.ofString "\\" ++ x) ++ 32 :: 11 :: 11 :: 32 :: lexB ps) := by
      unfold word1; rw [if_neg (by decide), if_pos rfl]; rfl
    rw [hw, scan_bare _ ss _ fun x hx => hok x (.tail _ hx)]
    show ((⟨((Str.ofString "").cps ++ #[c]) ++ (cat ss).cps⟩ : Str), _) = ((⟨#[c] ++ (cat ss).cps⟩ : Str), _)
    have : (Str.ofString "").cps = #[] := by kernel_rfl
    rw [this]; simp
theorem emptyC : (Str.ofString "").cps = #[] := by kernel_rfl
theorem str_ext {a b : Str} (h : a.cps = b.cps) : a = b := by cases a; cases b; exact congrArg Str.mk h
theorem tok1 (r : List Nat) : tokR (11 :: 11 :: 32 :: r) = (Str.ofString "\x0b\x0b", r) := by
  rw [tok_no (by decide)]
  have hw : word1 11 (11 :: 32 :: r) = scan isWs (Str.ofString "" ++ ⟨#[11]⟩) (11 :: 32 :: r) := by
    unfold word1; rw [if_neg (by decide), if_neg (by decide)]
  rw [hw, scan_ch (by decide) (by decide), scan_stop (by decide)]
  have : Str.ofString "" ++ (⟨#[11]⟩ : Str) ++ ⟨#[11]⟩ = Str.ofString "\x0b\x0b" := by kernel_rfl
  rw [this]
theorem tok2 (r : List Nat) : tokR (34 :: 122 :: 92 :: 34 :: 92 :: 10 :: 35 :: 10 :: 34 :: r) = (Str.ofString "z\"\n#\n", r) := by
  rw [tok_no (by decide)]
  have hw : word1 34 (122 :: 92 :: 34 :: 92 :: 10 :: 35 :: 10 :: 34 :: r) = scan (· == 34) (Str.ofString "") (122 :: 92 :: 34 :: 92 :: 10 :: 35 :: 10 :: 34 :: r) := by
    unfold word1; rw [if_pos rfl]
  rw [hw, scan_ch (by decide) (by decide), scan_bs (by decide)]
  show ((scan (· == 34) _ (92 :: 10 :: 35 :: 10 :: 34 :: r)).1, (scan (· == 34) _ (92 :: 10 :: 35 :: 10 :: 34 :: r)).2.1) = _
  rw [scan_bs (by decide)]
  show ((scan (· == 34) _ (35 :: 10 :: 34 :: r)).1, (scan (· == 34) _ (35 :: 10 :: 34 :: r)).2.1) = _
  rw [scan_ch (by decide) (by decide), scan_ch (by decide) (by decide), scan_stop (by decide)]
  have : Str.ofString "" ++ (⟨#[122]⟩ : Str) ++ headT (34 :: 92 :: 10 :: 35 :: 10 :: 34 :: r) ++ headT (10 :: 35 :: 10 :: 34 :: r) ++ ⟨#[35]⟩ ++ ⟨#[10]⟩ = Str.ofString "z\"\n#\n" := by
    show Str.ofString "" ++ (⟨#[122]⟩ : Str) ++ ⟨#[34]⟩ ++ ⟨#[10]⟩ ++ ⟨#[35]⟩ ++ ⟨#[10]⟩ = Str.ofString "z\"\n#\n"
    kernel_rfl
  rw [this]
structure Lexed (P : Params) (ps : List Int) : Prop where
  r1 : remK (lexT ps) 1 = 11 :: 11 :: 32 :: lexB ps
  r2 : remK (lexT ps) 2 = lexB ps
  r3 : remK (lexT ps) 3 = 9 :: 34 :: codes (textS ps)
  r4 : ∀ k, remK (lexT ps) (4 + k) = []
  t0 : tokK (lexT ps) 0 = Txt.join (Str.ofString "") (textS ps)
  t1 : tokK (lexT ps) 1 = Str.ofString "\x0b\x0b"
  t2 : tokK (lexT ps) 2 = Str.ofString "z\"\n#\n"
  t3 : Txt.join (Str.ofString "") (prepL P (tokK (lexT ps) 3).cps.toList) = Txt.join (Str.ofString "") (textM ps)
  t3s : (tokK (lexT ps) 3).cps.size ≤ 1000
  t4 : tokK (lexT ps) 4 = Str.ofString ""
theorem lexed (P : Params) {ps : List Int} (hp : ps.length = 10) (hq : ∀ n ∈ ps, 0 ≤ n ∧ n < 512) : Lexed P ps := by
  obtain ⟨b, hR⟩ := textRun P hq
  have hts := textS_len hp
  obtain ⟨u, e1, e2, e3⟩ := tok_run P hR
  have h0 := tok0 P hp hq
  have r1 : remK (lexT ps) 1 = 11 :: 11 :: 32 :: lexB ps := by show (tokR (lexT ps)).2 = _; rw [h0]
  have r2 : remK (lexT ps) 2 = lexB ps := by show (tokR (remK (lexT ps) 1)).2 = _; rw [r1, tok1]
  have r3 : remK (lexT ps) 3 = 9 :: 34 :: codes (textS ps) := by show (tokR (remK (lexT ps) 2)).2 = _; rw [r2, tok2]
  have h3 : tokR (remK (lexT ps) 3) = (⟨u.toArray⟩, []) := by rw [r3, tok_ws (by decide), e1]
  have r4 : remK (lexT ps) 4 = [] := by show (tokR (remK (lexT ps) 3)).2 = _; rw [h3]
  refine ⟨r1, r2, r3, ?_, ?_, ?_, ?_, ?_, ?_, ?_⟩
  · intro k
    induction k with
    | zero => exact r4
    | succ k ih => show (tokR (remK (lexT ps) (4 + k))).2 = _; rw [ih]; rfl
  · show (tokR (lexT ps)).1 = _; rw [h0]
  · show (tokR (remK (lexT ps) 1)).1 = _; rw [r1, tok1]
  · show (tokR (remK (lexT ps) 2)).1 = _; rw [r2, tok2]
  · show Txt.join _ (prepL P (tokR (remK (lexT ps) 3)).1.cps.toList) = _; rw [h3]; exact join_of_codes e2
  · show (tokR (remK (lexT ps) 3)).1.cps.size ≤ 1000; rw [h3]; show u.toArray.size ≤ 1000; rw [List.size_toArray]; omega
  · show (tokR (remK (lexT ps) 4)).1 = _; rw [r4]; rfl
theorem codes_len {ss : List Str} (h : ∀ s ∈ ss, ∃ c, s = ⟨#[c]⟩ ∧ c < 0x110000) : (codes ss).length = ss.length := by
  induction ss with
  | nil => rfl
  | cons s r ih =>
    obtain ⟨d, rfl, hd⟩ := h s (.head _)
    rw [codes_cons]
    show (d :: codes r).length = _
    rw [List.length_cons, List.length_cons, ih fun x hx => h x (.tail _ hx)]
theorem bare_facts {ss : List Str} (h : ∀ s ∈ ss, ∃ c, s = ⟨#[c]⟩ ∧ c < 0x110000) :
    okCs (codes (ss.map fun x => Str.ofString "\\" ++ x)) ∧ (codes (ss.map fun x => Str.ofString "\\" ++ x)).length = 2 * ss.length ∧ (codes (ss.map fun x => Str.ofString "\\" ++ x)).count 10 = (codes ss).count 10 ∧ countIn (.str (Str.ofString "\n")) (ss.map PyData.str) = ((codes ss).count 10 : Nat) := by
  induction ss with
  | nil => exact ⟨fun c hc => (nomatch hc), rfl, rfl, rfl⟩
  | cons s r ih =>
    obtain ⟨d, rfl, hd⟩ := h s (.head _)
    obtain ⟨h1, h2, h3, h4⟩ := ih fun x hx => h x (.tail _ hx)
    have e : (Str.ofString "\\" ++ (⟨#[d]⟩ : Str)).cps.toList = [92, d] := by
      show ((Str.ofString "\\").cps ++ #[d]).toList = _
      have : (Str.ofString "\\").cps = #[92] := by kernel_rfl
      rw [this]; rfl
    rw [List.map_cons, codes_cons, codes_cons, e]
    refine ⟨?_, ?_, ?_, ?_⟩
    · intro c hc
      rcases List.mem_cons.mp hc with rfl | hc
      · decide
      · rcases List.mem_cons.mp hc with rfl | hc
        · exact hd
        · exact h1 c hc
    · rw [List.length_append, h2]
      show 2 + 2 * r.length = 2 * (r.length + 1)
      omega
    · rw [List.count_append, List.count_append, h3]
      show (92 :: [d]).count 10 + _ = _
      rw [List.count_cons_of_ne (by decide)]
    · rw [List.map_cons, List.count_append]
      show (if Spec.same (.str ⟨#[d]⟩) (.str (Str.ofString "\n")) then 1 else 0) + countIn _ (r.map PyData.str) = _
      rw [h4]
      have hn : Str.ofString "\n" = ⟨#[10]⟩ := by kernel_rfl
      rw [hn]
      show (if Spec.same (.str ⟨#[d]⟩) (.str ⟨#[10]⟩) then (1 : Int) else 0) + _ = (([d].count 10 + _ : Nat) : Int)
      by_cases hd10 : d = 10
      · subst hd10
        rw [if_pos (by kernel_rfl)]
        rw [List.count_singleton_self]
        omega
      · have : Spec.same (.str ⟨#[d]⟩) (.str ⟨#[10]⟩) = false := by
          show (_ == _) = false
          rw [beq_eq_false_iff_ne]
          intro h9
          injection h9 with h9
          injection h9 with h9
          simp at h9
          exact hd10 h9
        rw [this, List.count_singleton]
        simp [hd10]
structure LexCounts (ps : List Int) (fe : Nat) : Prop where
  all : (lexT ps).count 10 = 3 + 2 * fe
  three : (remK (lexT ps) 3).count 10 = fe
  ok : ∀ i, okCs (remK (lexT ps) i)
  len : ∀ i, (remK (lexT ps) i).length ≤ 100
theorem lex_counts (P : Params) {ps : List Int} (hp : ps.length = 10) (hq : ∀ n ∈ ps, 0 ≤ n ∧ n < 512) : ∃ fe : Nat, countIn (.str (Str.ofString "\n")) ((textS ps).map PyData.str) = (fe : Int) ∧ LexCounts ps fe := by
  have hts := textS_len hp
  have hok := textS_ok P hq
  obtain ⟨h1, h2, h3, h4⟩ := bare_facts hok
  have h5 := codes_ok hok
  have h6 := codes_len hok
  have LX := lexed P hp hq
  refine ⟨_, h4, ?_⟩
  have okB : okCs (lexB ps) := by
    intro c hc
    unfold lexB at hc
    simp only [List.mem_cons] at hc
    rcases hc with rfl | rfl | rfl | rfl | rfl | rfl | rfl | rfl | rfl | rfl | rfl | hc
    all_goals (first | decide | exact h5 c hc)
  have lnB : (lexB ps).length ≤ 27 := by
    unfold lexB
    simp only [List.length_cons]
    omega
  have cB : (lexB ps).count 10 = 2 + (codes (textS ps)).count 10 := by
    unfold lexB
    simp only [List.count_cons]
    simp
    omega
  have okL : okCs (lexT ps) := by
    rw [lexT_is]
    intro c hc
    simp only [List.mem_cons, List.mem_append] at hc
    rcases hc with rfl | rfl | rfl | rfl | hc | rfl | rfl | rfl | rfl | hc
    all_goals (first | decide | exact h1 c hc | exact okB c (by simpa [lexB] using hc))
  have lnL : (lexT ps).length ≤ 100 := by
    rw [lexT_is]
    simp only [List.length_cons, List.length_append] at lnB ⊢
    unfold bareC
    omega
  refine ⟨?_, ?_, ?_, ?_⟩
  · rw [lexT_is]
    rw [show (32 :: 13 :: 10 :: 9 :: (bareC ps ++ 32 :: 11 :: 11 :: 32 :: lexB ps)) = [32, 13, 10, 9] ++ (bareC ps ++ ([32, 11, 11, 32] ++ lexB ps)) from rfl]
    rw [List.count_append, List.count_append, List.count_append, cB]
    unfold bareC
    rw [h3]
    rw [show List.count 10 [32, 13, 10, 9] = 1 from rfl, show List.count 10 [32, 11, 11, 32] = 0 from rfl]
    omega
  · rw [LX.r3, List.count_cons_of_ne (by decide), List.count_cons_of_ne (by decide)]
  · intro i
    rcases i with _ | _ | _ | _ | k
    · exact okL
    · show okCs (remK (lexT ps) 1)
      rw [LX.r1]
      intro c hc
      rcases List.mem_cons.mp hc with rfl | hc
      · decide
      · rcases List.mem_cons.mp hc with rfl | hc
        · decide
        · rcases List.mem_cons.mp hc with rfl | hc
          · decide
          · exact okB c hc
    · show okCs (remK (lexT ps) 2)
      rw [LX.r2]; exact okB
    · show okCs (remK (lexT ps) 3)
      rw [LX.r3]
      intro c hc
      rcases List.mem_cons.mp hc with rfl | hc
      · decide
      · rcases List.mem_cons.mp hc with rfl | hc
        · decide
        · exact h5 c hc
    · show okCs (remK (lexT ps) (k + 4))
      rw [Nat.add_comm, LX.r4]
      intro c hc; cases hc
  · intro i
    rcases i with _ | _ | _ | _ | k
    · exact lnL
    · show (remK (lexT ps) 1).length ≤ 100
      rw [LX.r1]
      simp only [List.length_cons] at lnB ⊢
      omega
    · show (remK (lexT ps) 2).length ≤ 100
      rw [LX.r2]; omega
    · show (remK (lexT ps) 3).length ≤ 100
      rw [LX.r3]
      simp only [List.length_cons]
      omega
    · show (remK (lexT ps) (k + 4)).length ≤ 100
      rw [Nat.add_comm, LX.r4]; exact Nat.zero_le _
end
section
open PySem PySem.W PySem.Calls PyProof.Rows PySem.Spec
set_option maxHeartbeats 2000000
local macro_rules | `(tactic| kpc_none) => `(tactic| grind)
theorem nxt {w : World} {A : Around} {E : Value → Shared → Prop} {s : Shared} {env : Env} {st : Stmt} {r : List Stmt} {Q : Flow → Shared → Prop} (h : wpAny (model pw w) A (exec st env) (fun f s' => match f with | .next => wpAny (model pw w) A (execs r env) Q E s' | f => Q f s') E s) : wpAny (model pw w) A (execs (st :: r) env) Q E s :=
  wpAny_execs_cons h
theorem out_low {p : LP} {c : Addr} (O : p.Far) (hpc : p.c = c) {b : Addr} (h1 : @LT.lt Nat _ b p.cc) (h2 : @LT.lt Nat _ b c) : b ∉ p.pl :: lxA p := by
  obtain ⟨o1, o2, o3, o4, o5, o6, o7, o8, o9, o10, o11⟩ := O
  have hpc' : @Eq Nat p.c c := hpc
  intro hm
  simp only [List.mem_cons, List.not_mem_nil, or_false] at hm
  rcases hm with e | e | e | e | e | e | e | e | e
  all_goals (have e' : @Eq Nat b _ := e; omega)
theorem out_high {p : LP} {c : Addr} (O : p.Far) (hpc : p.c = c) {b : Addr} (h1 : @LT.lt Nat _ p.pl b) (h2 : @LT.lt Nat _ c b) : b ∉ p.pl :: lxA p := by
  obtain ⟨o1, o2, o3, o4, o5, o6, o7, o8, o9, o10, o11⟩ := O
  have hpc' : @Eq Nat p.c c := hpc
  intro hm
  simp only [List.mem_cons, List.not_mem_nil, or_false] at hm
  rcases hm with e | e | e | e | e | e | e | e | e
  all_goals (have e' : @Eq Nat b _ := e; omega)
theorem out_new {w : World} {p : LP} {T9 : Int} {cs : List Nat} {lx : List (Addr × Obj)} (hl : LexAt w p T9 cs lx) {b : Addr} {o : Obj} {all : List (Addr × Obj)} (h1 : (p.pl, o) ∈ all) (h2 : ∀ q ∈ lx, q ∈ all) (h : ∀ q ∈ all, @Ne Nat q.1 b) : b ∉ p.pl :: lxA p := by
  intro hm
  rcases List.mem_cons.mp hm with e | hm
  · exact h _ h1 e.symm
  · rw [← hl.addr] at hm
    obtain ⟨q, hq, e⟩ := List.mem_map.mp hm
    exact h q (h2 q hq) e
theorem bare_len (P : Params) {ps : List Int} (hp : ps.length = 10) (hq : ∀ n ∈ ps, 0 ≤ n ∧ n < 512) : (Txt.join (Str.ofString "") ((textS ps).map fun x => Str.ofString "\\" ++ x)).length ≤ 32 := by
  have hts := textS_len hp
  obtain ⟨_, h2, _, _⟩ := bare_facts (textS_ok P hq)
  rw [tjoin_cat]
  have : (cat ((textS ps).map fun x => Str.ofString "\\" ++ x)).length = (codes ((textS ps).map fun x => Str.ofString "\\" ++ x)).length := (Array.length_toList).symm
  rw [this, h2]
  omega
theorem words_ok (P : Params) {ps : List Int} (hq : ∀ n ∈ ps, 0 ≤ n ∧ n < 512) : strsOk [Txt.join (Str.ofString "") (textS ps), Str.ofString "\x0b\x0b", Str.ofString "z\"\n#\n"] = true := by
  have h5 := codes_ok (textS_ok P hq)
  have e : PyData.strOk (Txt.join (Str.ofString "") (textS ps)) = true := by
    rw [tjoin_cat]
    unfold PyData.strOk
    rw [Array.all_eq_true_iff_forall_mem]
    intro x hx
    exact decide_eq_true (h5 x (Array.mem_toList_iff.mpr hx))
  unfold strsOk
  simp only [List.all_cons, e, List.all_nil]
  kernel_rfl
theorem law_main (w : World) (mean : ExcName → Option Value) (mg mb : Str → Option Value) (g : Heap) (L fa Ax : Addr) (cd : Value) (base : Heap) (vs : List Value) (ns : List Int) (hi : IntsAre vs ns) (hn : ns.length ≤ 63) (s : Shared) (m : Str → Option Value) (o1 o2 o3 o4 o5 o6 o7 o8 : Obj) (Q : Flow → Shared → Prop) (E : Value → Shared → Prop)
    (B : Below callerA base [] g) (X : (K w.params).In g) (T : Top tq lz mean mg mb g) (C7 : CodeHd g 147 143) (hl : g.IsList Ax vs.toArray) (F : Fr g L s.heap m)
    (N : News g L s.heap [(L + 1 + 1 + 1 + 1 + 1 + 1 + 1 + 1, o8), (L + 1 + 1 + 1 + 1 + 1 + 1 + 1, o7), (L + 1 + 1 + 1 + 1 + 1 + 1, o6), (L + 1 + 1 + 1 + 1 + 1, o5), (L + 1 + 1 + 1 + 1, o4), (L + 1 + 1 + 1, o3), (L + 1 + 1, o2), (L + 1, o1), (143, tabObj #[])])
    (l0 : @LT.lt Nat _ 143 L) (hm : m (Str.ofString "script") = some (.ref Ax))
    (d1 : o1.data = .cell none) (d2 : o2.data = .cell none) (d3 : o3.data = .cell none) (d4 : o4.data = .cell none) (d5 : o5.data = .cell none) (d6 : o6.data = .cell none) (d7 : o7.data = .cell none) (d8 : o8.data = .cell none)
    (hk : ∀ h tk all m' c, (143, tab1 c) ∈ all → Fr g L h m' → News g L h all → Q (.ret (.bool true)) { s with heap := h, toks := tk }) :
    wpAny (model pw w) (lA L fa cd) (execs bodLaw (lenv L fa cd)) Q E s := by
  refine law_a w mean mg mb g L fa Ax cd base vs ns hi hn s m o1 o2 o3 o4 o5 o6 o7 o8 Q E B X T C7 hl F N l0 hm d1 d2 d3 d4 d5 d6 d7 d8 ?_
  intro h1 tk1 m1 tA tB D wn va vb ysv kD kw ps wv wi oM oL oW oN tW tF tb H F1 N1 e1 e2 e3 e4
  obtain ⟨fe, hfe, LC⟩ := lex_counts w.params H.hp H.hq
  have LX := lexed w.params H.hp H.hq
  have PU := pure_all w.params H.hp H.hq
  have hts := textS_len H.hp
  rw [hfe] at e3
  refine law_c w mean mg mb g L fa cd base _ m1 ps tA tB D wn va vb ysv kD kw wv wi oM oL oW oN o5 o6 o7 o8 _ _ tW tF tb Q E B X T H F1 N1 e1 e2 e3 e4 (bare_len w.params H.hp H.hq) d5 d6 d7 d8 ?_
  intro h2 tk2 c rw p t1 kr kp tn us k oX oR oH tH HD dM dX dR dH hsv F2 N2
  have hl2 : LexAt w p (1 + ((lexT ps).count 10 : Nat)) (lexT ps) (lexL w p 1 tn us k) := ⟨1, tn, us, k, rfl, hsv, rfl⟩
  refine nxt ?_
  refine law_while w mean mg mb g L fa cd base _ m1 c rw p ps tA tB va vb ((L + 1 + 1 + 1 + 1 + 1 + 1 + 1 + 1, o8) :: (L + 1 + 1 + 1 + 1, oN) :: (L + 1 + 1 + 1, oW) :: (L + 1 + 1, oL) :: (D, PySem.W.listOf ysv kD) :: (wn, PySem.W.listOf wv.toArray kw) :: wi) oM oR oX oH kr kp tH t1 tW _ (lexT ps) (lexL w p 1 tn us k) _ E B X T C7 HD PU F2 N2 e1 e2 dM dX dR dH hl2 ?_
  intro h3 tk3 m3 r kk hI kr3 kp3 oH3 tH3 rv pv R hr40 hIk hWr hrv dH3 hpv hm3 F3 N3
  have e1' : m3 (Str.ofString "signs") = some (.ref tA) := by rw [hm3 _ (by decide)]; exact e1
  have e2' : m3 (Str.ofString "whole") = some (.int va.size tW) := by rw [hm3 _ (by decide)]; exact e2
  have e3' : m3 (Str.ofString "feeds") = some (.int fe tF) := by rw [hm3 _ (by decide)]; exact e3
  refine nxt ?_
  obtain ⟨o1', o2', o3', o4', o5', o6', o7', o8', o9', o10', o11'⟩ := id HD.pfar
  have h143 := H.h143
  have hlA := H.lA
  have hlB := H.lB
  have hltn := H.ltn
  have hlC := HD.lC
  have hlP := HD.lP
  have hlR := HD.lR
  have hlRc := HD.lRc
  have hpc : @Eq Nat p.c c := HD.pc
  have hkr := rows_ge R kk (Nat.le_refl _)
  have hPI : (pushI r hI (kk - hI)).length ≤ 100 := by unfold pushI; rw [List.length_map, List.length_range']; omega
  have hPS : ∀ n ∈ pushI r hI (kk - hI), -1000 ≤ n ∧ n ≤ 1000 := by
    intro n hn9
    unfold pushI at hn9
    obtain ⟨i, hi9, rfl⟩ := List.mem_map.mp hn9
    rw [List.mem_range'_1] at hi9
    have h8 : r i ≤ r kk := by
      by_cases q : i = kk
      · rw [q]; exact Nat.le_refl _
      · exact Nat.le_of_lt (R.mono (i := i) (j := kk) (by omega) (Nat.le_refl _))
    unfold lineI
    split <;> omega
  have hz := H.hz
  have hLX : ∀ q ∈ lexL w p 1 tn us k, @LT.lt Nat _ tB q.1 := by
    intro q hq
    have h9 : q.1 ∈ lxA p := by rw [← hl2.addr]; exact List.mem_map_of_mem hq
    generalize q.1 = b at h9
    simp only [List.mem_cons, List.not_mem_nil, or_false] at h9
    rcases h9 with e | e | e | e | e | e | e | e
    all_goals (have e' : @Eq Nat b _ := e; omega)
  have hwn := HD.rP (wn, PySem.W.listOf wv.toArray kw) (by k_mem)
  have hwi : ∀ q ∈ wi, @LT.lt Nat _ q.1 p.cc ∧ @LT.lt Nat _ q.1 c := fun q hq => HD.rP q (List.mem_cons_of_mem _ (List.mem_cons_of_mem _ (List.mem_cons_of_mem _ (List.mem_cons_of_mem _ (List.mem_cons_of_mem _ (List.mem_cons_of_mem _ hq))))))
  refine law_line w mean mg mb g L fa cd base _ m3 rw oR oH3 o8 kr3 rv r kk ((L + 1 + 1 + 1 + 1 + 1, oX) :: (L + 1, oM) :: (tB, PySem.W.listOf vb 0) :: (tA, PySem.W.listOf va 0) :: (L + 1 + 1 + 1, oW) :: (wn, PySem.W.listOf wv.toArray kw) :: (143, tab1 c) :: (p.pl, PySem.W.listOf pv.toArray kp3) :: (lexL w p 1 tn us k ++ wi)) _ E B X T F3 (news_sub N3 (by kcf_all)) d8 dR hrv (by omega) ?_ ?_
  · simp only [List.forall_mem_cons]
    refine ⟨?_, ?_, ?_, ?_, ?_, ?_, ?_, ?_, ?_, ?_, ?_, List.forall_mem_append.mpr ⟨fun q hq => Nat.ne_of_gt (Nat.lt_trans ?_ (hLX q hq)), fun q hq => (H.hdis q hq _ (.head _)).symm⟩⟩ <;> (first | omega | (show @Ne Nat _ _; omega) | (show @LT.lt Nat _ _ _; omega))
  intro h4 tk4 ln lna kl o8n d8n hln hlnn F4 N4
  refine nxt ?_
  refine law_left w mean mg mb g L fa cd base _ m3 (lvN (textM ps)) rw ln oR oH3 o8n kr3 kl rv lna r kk hI tH3 ((L + 1 + 1 + 1 + 1 + 1, oX) :: (L + 1, oM) :: (tB, PySem.W.listOf vb 0) :: (tA, PySem.W.listOf va 0) :: (L + 1 + 1 + 1, oW) :: (wn, PySem.W.listOf wv.toArray kw) :: (143, tab1 c) :: (p.pl, PySem.W.listOf pv.toArray kp3) :: (lexL w p 1 tn us k ++ wi)) _ E B X T F4 N4 d8n dR dH3 hrv hln (by omega) hIk R ?_
  intro h5 tk5 lf ya kf hya hlf F5 N5
  refine nxt ?_
  have oX9 : (L + 1 + 1 + 1 + 1 + 1, oX).1 ∉ p.pl :: lxA p := out_low HD.pfar HD.pc (by show @LT.lt Nat _ _ _; dsimp only; omega) (by show @LT.lt Nat _ _ _; dsimp only; omega)
  have hM13 : ∀ q ∈ (ln, PySem.W.listOf lna kl) :: (L + 1 + 1 + 1 + 1 + 1 + 1 + 1 + 1, o8n) :: (L + 1 + 1 + 1 + 1 + 1 + 1, oR) :: (rw, PySem.W.listOf rv.toArray kr3) :: (L + 1, oM) :: (tB, PySem.W.listOf vb 0) :: (tA, PySem.W.listOf va 0) :: (L + 1 + 1 + 1, oW) :: (wn, PySem.W.listOf wv.toArray kw) :: (143, tab1 c) :: wi, q.1 ∉ p.pl :: lxA p := by
    have low : ∀ b : Addr, @LT.lt Nat _ b p.cc → @LT.lt Nat _ b c → b ∉ p.pl :: lxA p := fun b => out_low HD.pfar HD.pc
    refine List.forall_mem_cons.mpr ⟨out_new (all := (L + 1 + 1 + 1 + 1 + 1 + 1 + 1 + 1, o8n) :: (L + 1 + 1 + 1 + 1 + 1 + 1 + 1, oH3) :: (L + 1 + 1 + 1 + 1 + 1 + 1, oR) :: (rw, PySem.W.listOf rv.toArray kr3) :: (L + 1 + 1 + 1 + 1 + 1, oX) :: (L + 1, oM) :: (tB, PySem.W.listOf vb 0) :: (tA, PySem.W.listOf va 0) :: (L + 1 + 1 + 1, oW) :: (wn, PySem.W.listOf wv.toArray kw) :: (143, tab1 c) :: (p.pl, PySem.W.listOf pv.toArray kp3) :: (lexL w p 1 tn us k ++ wi)) (o := PySem.W.listOf pv.toArray kp3) hl2 (by k_mem) (by kcf_all) hlnn, ?_⟩
    simp only [List.forall_mem_cons]
    refine ⟨low _ ?_ ?_, low _ ?_ ?_, out_high HD.pfar HD.pc ?_ ?_, low _ ?_ ?_, low _ ?_ ?_, low _ ?_ ?_, low _ ?_ ?_, low _ ?_ ?_, low _ ?_ ?_, fun q hq => low _ (hwi q hq).1 (hwi q hq).2⟩ <;> (show @LT.lt Nat _ _ _; first | omega | exact hwn.1 | exact hwn.2)
  have hlf9 : lf ∉ p.pl :: lxA p := out_new (all := (ln, PySem.W.listOf lna kl) :: (L + 1 + 1 + 1 + 1 + 1 + 1 + 1 + 1, o8n) :: (L + 1 + 1 + 1 + 1 + 1 + 1 + 1, oH3) :: (L + 1 + 1 + 1 + 1 + 1 + 1, oR) :: (rw, PySem.W.listOf rv.toArray kr3) :: (L + 1 + 1 + 1 + 1 + 1, oX) :: (L + 1, oM) :: (tB, PySem.W.listOf vb 0) :: (tA, PySem.W.listOf va 0) :: (L + 1 + 1 + 1, oW) :: (wn, PySem.W.listOf wv.toArray kw) :: (143, tab1 c) :: (p.pl, PySem.W.listOf pv.toArray kp3) :: (lexL w p 1 tn us k ++ wi)) (o := PySem.W.listOf pv.toArray kp3) hl2 (by k_mem) (by kcf_all) hlf
  refine law_13 w mean mg mb g L fa cd base _ _ p (1 + ((lexT ps).count 10 : Nat)) (lexT ps) tn us k ((ln, PySem.W.listOf lna kl) :: (L + 1 + 1 + 1 + 1 + 1 + 1 + 1 + 1, o8n) :: (L + 1 + 1 + 1 + 1 + 1 + 1, oR) :: (rw, PySem.W.listOf rv.toArray kr3) :: (L + 1, oM) :: (tB, PySem.W.listOf vb 0) :: (tA, PySem.W.listOf va 0) :: (L + 1 + 1 + 1, oW) :: (wn, PySem.W.listOf wv.toArray kw) :: (143, tab1 c) :: wi) lf ya kf kp3 oX pv _ _ E B X T C7 F5 (news_sub N5 (by kcf_all)) (by rfl) dX hl2 HD.pfar hya hpv hPI hPS ?_ ?_
  · exact List.forall_mem_cons.mpr ⟨hlf9, List.forall_mem_cons.mpr ⟨oX9, hM13⟩⟩
  intro h6 tk6 kp6 F6 N6
  refine nxt ?_
  refine law_14 w mean mg mb g L fa cd base _ _ p (1 + ((lexT ps).count 10 : Nat)) (lexT ps) (lexL w p 1 tn us k) ((ln, PySem.W.listOf lna kl) :: (L + 1 + 1 + 1 + 1 + 1 + 1 + 1 + 1, o8n) :: (L + 1 + 1 + 1 + 1 + 1 + 1, oR) :: (rw, PySem.W.listOf rv.toArray kr3) :: (L + 1, oM) :: (tB, PySem.W.listOf vb 0) :: (tA, PySem.W.listOf va 0) :: (L + 1 + 1 + 1, oW) :: (wn, PySem.W.listOf wv.toArray kw) :: (143, tab1 c) :: wi) kp6 oX _ E B X T C7 F6 (news_sub N6 (by kcf_all)) dX hl2 HD.pfar HD.pok LC.ok (fun i => by rw [sizeLine_eq]; have := LC.len i; omega) (List.forall_mem_cons.mpr ⟨oX9, hM13⟩) ?_
  intro h7 tk7 Dw ys lx7 hys hl7 F7 N7 hDw
  refine nxt ?_
  obtain ⟨n7, tn7, us7, k7, rfl, hv7, hT7⟩ := id hl7
  rw [LX.t0, LX.t1, LX.t2] at hys
  rw [LC.all, LC.three] at hT7
  refine law_15 w mean mg mb g L fa cd base _ _ p n7 tn7 us7 k7 ((p.pl, PySem.W.listOf #[] kp6) :: (ln, PySem.W.listOf lna kl) :: (L + 1 + 1 + 1 + 1 + 1 + 1 + 1 + 1, o8n) :: (L + 1 + 1 + 1 + 1 + 1 + 1, oR) :: (rw, PySem.W.listOf rv.toArray kr3) :: (L + 1, oM) :: (tB, PySem.W.listOf vb 0) :: (L + 1 + 1 + 1, oW) :: (wn, PySem.W.listOf wv.toArray kw) :: (143, tab1 c) :: wi) kp6 oX Dw tA ys va ps fe tF _ E B X T F7 (news_sub N7 (by kcf_all)) dX (by rfl) (by exact e1') (by exact e3') H.hS (by omega) hys (words_ok w.params H.hq) (by omega) ?_
  intro h8 tk8 F8 N8
  refine nxt ?_
  refine law_16 w mean mg mb g L fa cd base _ _ p _ (remK (lexT ps) 3) (lexL w p n7 tn7 us7 k7) ((ln, PySem.W.listOf lna kl) :: (L + 1 + 1 + 1 + 1 + 1 + 1 + 1 + 1, o8n) :: (L + 1 + 1 + 1 + 1 + 1 + 1, oR) :: (rw, PySem.W.listOf rv.toArray kr3) :: (L + 1 + 1 + 1, oW) :: (wn, PySem.W.listOf wv.toArray kw) :: (143, tab1 c) :: wi) kp6 oX oM tB vb ps fe tF _ E B X T C7 F8 (news_sub N8 (by kcf_all)) dX dM hl7 HD.pfar HD.pok (by exact e3') H.hM (by omega) (LC.ok 3) (by rw [sizeLine_eq]; have := LC.len 3; omega) ?_ LX.t3s LX.t3 ?_ ?_
  · exact List.forall_mem_cons.mpr ⟨oX9, fun q hq => hM13 q ((by kcf_all : ∀ q ∈ (L + 1, oM) :: (tB, PySem.W.listOf vb 0) :: (ln, PySem.W.listOf lna kl) :: (L + 1 + 1 + 1 + 1 + 1 + 1 + 1 + 1, o8n) :: (L + 1 + 1 + 1 + 1 + 1 + 1, oR) :: (rw, PySem.W.listOf rv.toArray kr3) :: (L + 1 + 1 + 1, oW) :: (wn, PySem.W.listOf wv.toArray kw) :: (143, tab1 c) :: wi, q ∈ (ln, PySem.W.listOf lna kl) :: (L + 1 + 1 + 1 + 1 + 1 + 1 + 1 + 1, o8n) :: (L + 1 + 1 + 1 + 1 + 1 + 1, oR) :: (rw, PySem.W.listOf rv.toArray kr3) :: (L + 1, oM) :: (tB, PySem.W.listOf vb 0) :: (tA, PySem.W.listOf va 0) :: (L + 1 + 1 + 1, oW) :: (wn, PySem.W.listOf wv.toArray kw) :: (143, tab1 c) :: wi) q hq)⟩
  · have e9 : (tokR (remK (lexT ps) 3)).2 = [] := LX.r4 0
    rw [e9, LC.all]
    simp only [List.count_nil]
    omega
  intro h9 tk9 lx9 hl9 F9 N9
  refine nxt ?_
  refine law_17 w mean mg mb g L fa cd base _ _ p _ _ lx9 ((ln, PySem.W.listOf lna kl) :: (L + 1 + 1 + 1 + 1 + 1 + 1 + 1 + 1, o8n) :: (L + 1 + 1 + 1 + 1 + 1 + 1, oR) :: (rw, PySem.W.listOf rv.toArray kr3) :: (L + 1 + 1 + 1, oW) :: (wn, PySem.W.listOf wv.toArray kw) :: (143, tab1 c) :: wi) kp6 oX _ E B X T C7 F9 (news_sub N9 (by kcf_all)) dX hl9 HD.pfar HD.pok (LC.ok 4) (by rw [sizeLine_eq]; have := LC.len 4; have e9 : (tokR (remK (lexT ps) 3)).2 = remK (lexT ps) 4 := rfl; rw [e9]; omega) ?_ LX.t4 ?_
  · exact List.forall_mem_cons.mpr ⟨oX9, fun q hq => hM13 q ((by kcf_all : ∀ q ∈ (ln, PySem.W.listOf lna kl) :: (L + 1 + 1 + 1 + 1 + 1 + 1 + 1 + 1, o8n) :: (L + 1 + 1 + 1 + 1 + 1 + 1, oR) :: (rw, PySem.W.listOf rv.toArray kr3) :: (L + 1 + 1 + 1, oW) :: (wn, PySem.W.listOf wv.toArray kw) :: (143, tab1 c) :: wi, q ∈ (ln, PySem.W.listOf lna kl) :: (L + 1 + 1 + 1 + 1 + 1 + 1 + 1 + 1, o8n) :: (L + 1 + 1 + 1 + 1 + 1 + 1, oR) :: (rw, PySem.W.listOf rv.toArray kr3) :: (L + 1, oM) :: (tB, PySem.W.listOf vb 0) :: (tA, PySem.W.listOf va 0) :: (L + 1 + 1 + 1, oW) :: (wn, PySem.W.listOf wv.toArray kw) :: (143, tab1 c) :: wi) q hq)⟩
  intro h10 tk10 F10 N10
  refine nxt ?_
  refine law_18 w mean mg mb g L fa cd base _ _ (lvN (textM ps)) va.size tW o8n oR oW ln rw wn lna rv.toArray kl kr3 kw wv wi [(143, tab1 c)] r kk _ E B X T F10 ?_ d8n dR H.dW (by exact e2') (by omega) H.hwin R PU.mono (by rw [List.toList_toArray]; exact hrv) hln (by omega) hWr ?_ ?_
  · exact news_sub N10 (by kcf_all)
  · exact hlnn (rw, PySem.W.listOf rv.toArray kr3) (by k_mem)
  · intro h11 tk11 all hall F11 N11
    exact hk _ _ _ _ c (hall _ (.head _)) F11 N11
end
end
end
end

end Mine
section
open PySem PySem.W PySem.Calls PyProof.Rows
set_option maxHeartbeats 8000000
theorem PySem.Challenge.cw_to0035_01_holds : PySem.Challenge.rw_to0035_01.Holds := by
  w_on
  refine holds_law ?ok fun said => ?_
  case ok => kernel_rfl
  refine holds_open (q := Mine.qv) (loose := Mine.lo) (Xt := Mine.xt) (XP := XL Mine.qv []) (Yf := Mine.hk2.obs) (Ya := Mine.hk2.val) (YP := Mine.hk2.says) (N := 40000) Mine.left2 Mine.hk2.of Mine.hk2.keeps (fun s e => xl_of s (Bool.and_eq_true_iff.mp e).1) XL.keeps (by rfl) (by rfl) (by rfl) (fun s e => recFacts_of (Bool.and_eq_true_iff.mp e).2) (by rfl) (by first | assumption | decide +kernel) (by decide +kernel) ⟨rfl, rfl, rfl, rfl, rfl, by decide +kernel⟩ ?hw ?hc
  case hw => w_witness2
  intro w s₀ s₁ mg mb G Y fa o pm cd doc dV kV ho hd hcd hD hmg hg args vals as hpre hlay hrd hwl hlo
  have KX := km_in_of Y
  km_tabs Y
  have X := (Ground.X G).1
  have V := (Ground.X G).2
  refine Ground.open G ?_
  intro T B D TE TW
  try (refine guard_noD D (by decide +kernel) ?_; clear D)
  km_lay T hmg ho hd cd
  clear hmg
  wrow_args hpre hlay hrd hwl hlo
  all_goals (first | refine callC_kw (enter_call ?_) | refine enter_call ?_)
  all_goals w_top on
  all_goals kn_posts
  all_goals w_call any ho hd hcd hD T F
  all_goals clear hd
  all_goals kn_ghosts F T
  all_goals k_drop
  rename_i hI0 hr0 hc1 hc2 h1 tk1 u8 u7 u6 u5 u4 u3 u2 u1 f8 f7 f6 f5 f4 f3 f2 f1 X0 X' T' K' F' N' l0
  clear X0
  refine Mine.law_main w _ mg mb _ _ fa _ cd _ _ _ hI0 ?hn _ _ u1 u2 u3 u4 u5 u6 u7 u8 _ _ K' X' T' codeHd lifted F' N' l0 ?hm ?d1 ?d2 ?d3 ?d4 ?d5 ?d6 ?d7 ?d8 ?hk
  case hn => omega
  case hm => rfl
  case hk =>
    intro h9 tk9 all m9 c9 hc9 F9 N9
    refine ⟨goodW_bool F9 ?hg ?hn ?hp, ?hG⟩
    case hg => exact hg
    case hn => intro _; rfl
    case hp => kc_post
    case hG => exact ⟨GrownAt.of N9 hc9, trivial⟩
  case d1 => first | exact f1 | exact f2 | exact f3 | exact f4 | exact f5 | exact f6 | exact f7 | exact f8
  case d2 => first | exact f1 | exact f2 | exact f3 | exact f4 | exact f5 | exact f6 | exact f7 | exact f8
  case d3 => first | exact f1 | exact f2 | exact f3 | exact f4 | exact f5 | exact f6 | exact f7 | exact f8
  case d4 => first | exact f1 | exact f2 | exact f3 | exact f4 | exact f5 | exact f6 | exact f7 | exact f8
  case d5 => first | exact f1 | exact f2 | exact f3 | exact f4 | exact f5 | exact f6 | exact f7 | exact f8
  case d6 => first | exact f1 | exact f2 | exact f3 | exact f4 | exact f5 | exact f6 | exact f7 | exact f8
  case d7 => first | exact f1 | exact f2 | exact f3 | exact f4 | exact f5 | exact f6 | exact f7 | exact f8
  case d8 => first | exact f1 | exact f2 | exact f3 | exact f4 | exact f5 | exact f6 | exact f7 | exact f8
end
