import PyProof.Rows.All
import Wide.All
import OpenK.AllK
import Wide.FinOn
import KE.KPairTest
import KE.KDictLaws
import Lean
import PySem.Challenge.RW_iu0051_01
set_option Elab.async false
set_option genSizeOf false
set_option genInjectivity false
set_option maxRecDepth 100000
namespace Mine
section
theorem exE2 {α0 α1 : Sort _} {p : α0 → α1 → Prop} {G : Prop} (zh : ∃ b0 b1, p b0 b1) (zf : ∀ b0 b1, p b0 b1 → G) : G :=
  zh.elim fun b0 z => z.elim (zf b0)
theorem exI2 {α0 α1 : Sort _} {p : α0 → α1 → Prop} (b0 : α0) (b1 : α1) (zh : p b0 b1) : ∃ b0 b1, p b0 b1 :=
  ⟨b0, b1, zh⟩
theorem exE3 {α0 α1 α2 : Sort _} {p : α0 → α1 → α2 → Prop} {G : Prop} (zh : ∃ b0 b1 b2, p b0 b1 b2) (zf : ∀ b0 b1 b2, p b0 b1 b2 → G) : G :=
  exE2 zh fun b0 b1 z => z.elim (zf b0 b1)
theorem exI3 {α0 α1 α2 : Sort _} {p : α0 → α1 → α2 → Prop} (b0 : α0) (b1 : α1) (b2 : α2) (zh : p b0 b1 b2) : ∃ b0 b1 b2, p b0 b1 b2 :=
  exI2 b0 b1 ⟨b2, zh⟩
theorem exE4 {α0 α1 α2 α3 : Sort _} {p : α0 → α1 → α2 → α3 → Prop} {G : Prop} (zh : ∃ b0 b1 b2 b3, p b0 b1 b2 b3) (zf : ∀ b0 b1 b2 b3, p b0 b1 b2 b3 → G) : G :=
  exE3 zh fun b0 b1 b2 z => z.elim (zf b0 b1 b2)
theorem exI4 {α0 α1 α2 α3 : Sort _} {p : α0 → α1 → α2 → α3 → Prop} (b0 : α0) (b1 : α1) (b2 : α2) (b3 : α3) (zh : p b0 b1 b2 b3) : ∃ b0 b1 b2 b3, p b0 b1 b2 b3 :=
  exI3 b0 b1 b2 ⟨b3, zh⟩
theorem exE5 {α0 α1 α2 α3 α4 : Sort _} {p : α0 → α1 → α2 → α3 → α4 → Prop} {G : Prop} (zh : ∃ b0 b1 b2 b3 b4, p b0 b1 b2 b3 b4) (zf : ∀ b0 b1 b2 b3 b4, p b0 b1 b2 b3 b4 → G) : G :=
  exE4 zh fun b0 b1 b2 b3 z => z.elim (zf b0 b1 b2 b3)
theorem exI5 {α0 α1 α2 α3 α4 : Sort _} {p : α0 → α1 → α2 → α3 → α4 → Prop} (b0 : α0) (b1 : α1) (b2 : α2) (b3 : α3) (b4 : α4) (zh : p b0 b1 b2 b3 b4) : ∃ b0 b1 b2 b3 b4, p b0 b1 b2 b3 b4 :=
  exI4 b0 b1 b2 b3 ⟨b4, zh⟩
theorem exE6 {α0 α1 α2 α3 α4 α5 : Sort _} {p : α0 → α1 → α2 → α3 → α4 → α5 → Prop} {G : Prop} (zh : ∃ b0 b1 b2 b3 b4 b5, p b0 b1 b2 b3 b4 b5) (zf : ∀ b0 b1 b2 b3 b4 b5, p b0 b1 b2 b3 b4 b5 → G) : G :=
  exE5 zh fun b0 b1 b2 b3 b4 z => z.elim (zf b0 b1 b2 b3 b4)
theorem exI6 {α0 α1 α2 α3 α4 α5 : Sort _} {p : α0 → α1 → α2 → α3 → α4 → α5 → Prop} (b0 : α0) (b1 : α1) (b2 : α2) (b3 : α3) (b4 : α4) (b5 : α5) (zh : p b0 b1 b2 b3 b4 b5) : ∃ b0 b1 b2 b3 b4 b5, p b0 b1 b2 b3 b4 b5 :=
  exI5 b0 b1 b2 b3 b4 ⟨b5, zh⟩
theorem exE7 {α0 α1 α2 α3 α4 α5 α6 : Sort _} {p : α0 → α1 → α2 → α3 → α4 → α5 → α6 → Prop} {G : Prop} (zh : ∃ b0 b1 b2 b3 b4 b5 b6, p b0 b1 b2 b3 b4 b5 b6) (zf : ∀ b0 b1 b2 b3 b4 b5 b6, p b0 b1 b2 b3 b4 b5 b6 → G) : G :=
  exE6 zh fun b0 b1 b2 b3 b4 b5 z => z.elim (zf b0 b1 b2 b3 b4 b5)
theorem exI7 {α0 α1 α2 α3 α4 α5 α6 : Sort _} {p : α0 → α1 → α2 → α3 → α4 → α5 → α6 → Prop} (b0 : α0) (b1 : α1) (b2 : α2) (b3 : α3) (b4 : α4) (b5 : α5) (b6 : α6) (zh : p b0 b1 b2 b3 b4 b5 b6) : ∃ b0 b1 b2 b3 b4 b5 b6, p b0 b1 b2 b3 b4 b5 b6 :=
  exI6 b0 b1 b2 b3 b4 b5 ⟨b6, zh⟩
theorem exE8 {α0 α1 α2 α3 α4 α5 α6 α7 : Sort _} {p : α0 → α1 → α2 → α3 → α4 → α5 → α6 → α7 → Prop} {G : Prop} (zh : ∃ b0 b1 b2 b3 b4 b5 b6 b7, p b0 b1 b2 b3 b4 b5 b6 b7) (zf : ∀ b0 b1 b2 b3 b4 b5 b6 b7, p b0 b1 b2 b3 b4 b5 b6 b7 → G) : G :=
  exE7 zh fun b0 b1 b2 b3 b4 b5 b6 z => z.elim (zf b0 b1 b2 b3 b4 b5 b6)
theorem exI8 {α0 α1 α2 α3 α4 α5 α6 α7 : Sort _} {p : α0 → α1 → α2 → α3 → α4 → α5 → α6 → α7 → Prop} (b0 : α0) (b1 : α1) (b2 : α2) (b3 : α3) (b4 : α4) (b5 : α5) (b6 : α6) (b7 : α7) (zh : p b0 b1 b2 b3 b4 b5 b6 b7) : ∃ b0 b1 b2 b3 b4 b5 b6 b7, p b0 b1 b2 b3 b4 b5 b6 b7 :=
  exI7 b0 b1 b2 b3 b4 b5 b6 ⟨b7, zh⟩
theorem exE9 {α0 α1 α2 α3 α4 α5 α6 α7 α8 : Sort _} {p : α0 → α1 → α2 → α3 → α4 → α5 → α6 → α7 → α8 → Prop} {G : Prop} (zh : ∃ b0 b1 b2 b3 b4 b5 b6 b7 b8, p b0 b1 b2 b3 b4 b5 b6 b7 b8) (zf : ∀ b0 b1 b2 b3 b4 b5 b6 b7 b8, p b0 b1 b2 b3 b4 b5 b6 b7 b8 → G) : G :=
  exE8 zh fun b0 b1 b2 b3 b4 b5 b6 b7 z => z.elim (zf b0 b1 b2 b3 b4 b5 b6 b7)
theorem anE2 {A0 A1 G : Prop} (zh : A0 ∧ A1) (zf : A0 → A1 → G) : G :=
  zf zh.1 zh.2
theorem anE3 {A0 A1 A2 G : Prop} (zh : A0 ∧ A1 ∧ A2) (zf : A0 → A1 → A2 → G) : G :=
  anE2 zh fun a0 z => zf a0 z.1 z.2
theorem anI3 {A0 A1 A2 : Prop} (a0 : A0) (a1 : A1) (a2 : A2) : A0 ∧ A1 ∧ A2 :=
  ⟨a0, a1, a2⟩
theorem anE4 {A0 A1 A2 A3 G : Prop} (zh : A0 ∧ A1 ∧ A2 ∧ A3) (zf : A0 → A1 → A2 → A3 → G) : G :=
  anE3 zh fun a0 a1 z => zf a0 a1 z.1 z.2
theorem anI4 {A0 A1 A2 A3 : Prop} (a0 : A0) (a1 : A1) (a2 : A2) (a3 : A3) : A0 ∧ A1 ∧ A2 ∧ A3 :=
  anI3 a0 a1 ⟨a2, a3⟩
theorem anE5 {A0 A1 A2 A3 A4 G : Prop} (zh : A0 ∧ A1 ∧ A2 ∧ A3 ∧ A4) (zf : A0 → A1 → A2 → A3 → A4 → G) : G :=
  anE4 zh fun a0 a1 a2 z => zf a0 a1 a2 z.1 z.2
theorem anI5 {A0 A1 A2 A3 A4 : Prop} (a0 : A0) (a1 : A1) (a2 : A2) (a3 : A3) (a4 : A4) : A0 ∧ A1 ∧ A2 ∧ A3 ∧ A4 :=
  anI4 a0 a1 a2 ⟨a3, a4⟩
theorem anE6 {A0 A1 A2 A3 A4 A5 G : Prop} (zh : A0 ∧ A1 ∧ A2 ∧ A3 ∧ A4 ∧ A5) (zf : A0 → A1 → A2 → A3 → A4 → A5 → G) : G :=
  anE5 zh fun a0 a1 a2 a3 z => zf a0 a1 a2 a3 z.1 z.2
theorem anI6 {A0 A1 A2 A3 A4 A5 : Prop} (a0 : A0) (a1 : A1) (a2 : A2) (a3 : A3) (a4 : A4) (a5 : A5) : A0 ∧ A1 ∧ A2 ∧ A3 ∧ A4 ∧ A5 :=
  anI5 a0 a1 a2 a3 ⟨a4, a5⟩
theorem anE7 {A0 A1 A2 A3 A4 A5 A6 G : Prop} (zh : A0 ∧ A1 ∧ A2 ∧ A3 ∧ A4 ∧ A5 ∧ A6) (zf : A0 → A1 → A2 → A3 → A4 → A5 → A6 → G) : G :=
  anE6 zh fun a0 a1 a2 a3 a4 z => zf a0 a1 a2 a3 a4 z.1 z.2
theorem anI7 {A0 A1 A2 A3 A4 A5 A6 : Prop} (a0 : A0) (a1 : A1) (a2 : A2) (a3 : A3) (a4 : A4) (a5 : A5) (a6 : A6) : A0 ∧ A1 ∧ A2 ∧ A3 ∧ A4 ∧ A5 ∧ A6 :=
  anI6 a0 a1 a2 a3 a4 ⟨a5, a6⟩
theorem anE8 {A0 A1 A2 A3 A4 A5 A6 A7 G : Prop} (zh : A0 ∧ A1 ∧ A2 ∧ A3 ∧ A4 ∧ A5 ∧ A6 ∧ A7) (zf : A0 → A1 → A2 → A3 → A4 → A5 → A6 → A7 → G) : G :=
  anE7 zh fun a0 a1 a2 a3 a4 a5 z => zf a0 a1 a2 a3 a4 a5 z.1 z.2
theorem anI8 {A0 A1 A2 A3 A4 A5 A6 A7 : Prop} (a0 : A0) (a1 : A1) (a2 : A2) (a3 : A3) (a4 : A4) (a5 : A5) (a6 : A6) (a7 : A7) : A0 ∧ A1 ∧ A2 ∧ A3 ∧ A4 ∧ A5 ∧ A6 ∧ A7 :=
  anI7 a0 a1 a2 a3 a4 a5 ⟨a6, a7⟩
theorem anE9 {A0 A1 A2 A3 A4 A5 A6 A7 A8 G : Prop} (zh : A0 ∧ A1 ∧ A2 ∧ A3 ∧ A4 ∧ A5 ∧ A6 ∧ A7 ∧ A8) (zf : A0 → A1 → A2 → A3 → A4 → A5 → A6 → A7 → A8 → G) : G :=
  anE8 zh fun a0 a1 a2 a3 a4 a5 a6 z => zf a0 a1 a2 a3 a4 a5 a6 z.1 z.2
theorem anI9 {A0 A1 A2 A3 A4 A5 A6 A7 A8 : Prop} (a0 : A0) (a1 : A1) (a2 : A2) (a3 : A3) (a4 : A4) (a5 : A5) (a6 : A6) (a7 : A7) (a8 : A8) : A0 ∧ A1 ∧ A2 ∧ A3 ∧ A4 ∧ A5 ∧ A6 ∧ A7 ∧ A8 :=
  anI8 a0 a1 a2 a3 a4 a5 a6 ⟨a7, a8⟩
theorem anE10 {A0 A1 A2 A3 A4 A5 A6 A7 A8 A9 G : Prop} (zh : A0 ∧ A1 ∧ A2 ∧ A3 ∧ A4 ∧ A5 ∧ A6 ∧ A7 ∧ A8 ∧ A9) (zf : A0 → A1 → A2 → A3 → A4 → A5 → A6 → A7 → A8 → A9 → G) : G :=
  anE9 zh fun a0 a1 a2 a3 a4 a5 a6 a7 z => zf a0 a1 a2 a3 a4 a5 a6 a7 z.1 z.2
theorem anI10 {A0 A1 A2 A3 A4 A5 A6 A7 A8 A9 : Prop} (a0 : A0) (a1 : A1) (a2 : A2) (a3 : A3) (a4 : A4) (a5 : A5) (a6 : A6) (a7 : A7) (a8 : A8) (a9 : A9) : A0 ∧ A1 ∧ A2 ∧ A3 ∧ A4 ∧ A5 ∧ A6 ∧ A7 ∧ A8 ∧ A9 :=
  anI9 a0 a1 a2 a3 a4 a5 a6 a7 ⟨a8, a9⟩
theorem anE11 {A0 A1 A2 A3 A4 A5 A6 A7 A8 A9 A10 G : Prop} (zh : A0 ∧ A1 ∧ A2 ∧ A3 ∧ A4 ∧ A5 ∧ A6 ∧ A7 ∧ A8 ∧ A9 ∧ A10) (zf : A0 → A1 → A2 → A3 → A4 → A5 → A6 → A7 → A8 → A9 → A10 → G) : G :=
  anE10 zh fun a0 a1 a2 a3 a4 a5 a6 a7 a8 z => zf a0 a1 a2 a3 a4 a5 a6 a7 a8 z.1 z.2
theorem anI11 {A0 A1 A2 A3 A4 A5 A6 A7 A8 A9 A10 : Prop} (a0 : A0) (a1 : A1) (a2 : A2) (a3 : A3) (a4 : A4) (a5 : A5) (a6 : A6) (a7 : A7) (a8 : A8) (a9 : A9) (a10 : A10) : A0 ∧ A1 ∧ A2 ∧ A3 ∧ A4 ∧ A5 ∧ A6 ∧ A7 ∧ A8 ∧ A9 ∧ A10 :=
  anI10 a0 a1 a2 a3 a4 a5 a6 a7 a8 ⟨a9, a10⟩
theorem mem0 {α : Type _} {a : α} {l : List α} : a ∈ a :: l := List.mem_cons_self
theorem mem1 {α : Type _} {a b : α} {l : List α} : a ∈ b :: a :: l := .tail _ mem0
theorem mem2 {α : Type _} {a b c : α} {l : List α} : a ∈ b :: c :: a :: l := .tail _ mem1
theorem mem3 {α : Type _} {a b c d : α} {l : List α} : a ∈ b :: c :: d :: a :: l := .tail _ mem2
theorem mem4 {α : Type _} {a b c d e : α} {l : List α} : a ∈ b :: c :: d :: e :: a :: l := .tail _ mem3
theorem mem5 {α : Type _} {a b c d e f : α} {l : List α} : a ∈ b :: c :: d :: e :: f :: a :: l := .tail _ mem4
theorem memL {α : Type _} {a : α} {l r : List α} (h : a ∈ l) : a ∈ l ++ r := List.mem_append_left _ h
theorem memR {α : Type _} {a : α} {l r : List α} (h : a ∈ r) : a ∈ l ++ r := List.mem_append_right _ h
theorem app2 {α : Type _} {l x y x' y' : List α} (h : x ++ y = x' ++ y') : (l ++ x) ++ y = (l ++ x') ++ y' := by
  rw [List.append_assoc, List.append_assoc, h]
theorem app3 {α : Type _} {l x y z x' y' : List α} (h : x ++ (y ++ z) = x' ++ y') : ((l ++ x) ++ y) ++ z = (l ++ x') ++ y' := by
  rw [List.append_assoc, app2 h]
end
section
open PySem PySem.W PyProof.Rows
noncomputable abbrev P : Program := PySem.Challenge.pw_iu0051_01
noncomputable abbrev IK (w : World) := intKind P w
noncomputable abbrev SK (w : World) := strKind P w
noncomputable def topSt (i : Nat) : Stmt := P.main.body.getD i (.Pass default)
noncomputable def clsSt (i j : Nat) : Stmt := match topSt i with
 | .ClassDef _ _ _ body _ _ _ _ _ _ _ => body.getD j (.Pass default)
 | _ => .Pass default
noncomputable def bodyOf : Stmt → List Stmt
 | .For _ _ b _ _ => b
 | .While _ b _ _ => b
 | _ => []
structure Fn where
 params : Arguments
 body : List Stmt
 scope : Scope
noncomputable def fnOfSt : Stmt → Fn
 | .FunctionDef _ a b _ _ _ s _ _ _ => ⟨a, b, s⟩
 | _ => ⟨⟨[], [], none, [], [], none, []⟩, [], default⟩
noncomputable def HasFn (K : Frag) (a : Addr) (name qual : Str) (r : Fn) (dV cdv : Value) : Prop :=
 (∃ pm, K.lookup a = some ⟨.type "function", none, .func (fnOf name qual r.params r.body r.scope dV .none .none pm none cdv .none), #[]⟩) ∧ codeIn K cdv qual = true
theorem opaqueQ {α : Type} {M : Model} {A : Around} {E : Value → Shared → Prop} {x : Sem α} {Q : α → Shared → Prop} {s : Shared} (h : ∀ (Q' : α → Shared → Prop) (E' : Value → Shared → Prop), (∀ a s', Q a s' → Q' a s') → (∀ e s', E e s' → E' e s') → wpAny M A x Q' E' s) : wpAny M A x Q E s :=
 h Q E (fun _ _ q => q) fun _ _ q => q
noncomputable def Keep (g h : Heap) : Prop := ∀ b o, g.get? b = some o → h.get? b = some o
theorem Keep.refl (h : Heap) : Keep h h := fun _ _ e => e
theorem Keep.trans {a b c : Heap} (x : Keep a b) (y : Keep b c) : Keep a c := fun d o e => y d o (x d o e)
theorem Keep.push (h : Heap) (o : Obj) : Keep h (h.push o) := fun _ _ e => Heap.get?_push_of_some _ e
theorem live_of_keep {h h' : Heap} (k : Keep h h') (b : Addr) (e : h.get? b ≠ none) : h'.get? b ≠ none := by
 cases q : h.get? b with
 | none => exact absurd q e
 | some o => rw [k _ _ q]; exact Option.some_ne_none _
structure Base (w : World) (K : Frag) (mg mb : Str → Option Value) (h : Heap) : Prop where
 X : K.In h
 g : h.Ns mainGlobals mg
 b : h.Ns builtinsNs mb
 lim : h.NoLimit
 bi : ∀ x : Str, x ≠ "__name__" → mb x = bootBuiltins x
 sm : h.get? sysModules ≠ none
theorem Base.keeps {w K mg mb} {g h : Heap} (B : Base w K mg mb g) (k : Keep g h) : Base w K mg mb h :=
 ⟨B.X.keeps k, (by obtain ⟨o, a, b, e, r⟩ := B.g; exact ⟨o, a, b, k _ _ e, r⟩), (by obtain ⟨o, a, b, e, r⟩ := B.b; exact ⟨o, a, b, k _ _ e, r⟩), B.lim.keeps k, B.bi, live_of_keep k _ B.sm⟩
theorem Base.newSys {w K mg mb} {g h : Heap} {e : Addr} (B : Base w K mg mb g) (k : Keep g h) (he : h.get? e = none) : (e == sysModules) = false := by
 rw [beq_eq_false_iff_ne]
 rintro rfl
 exact live_of_keep k _ B.sm he
structure Inst (h : Heap) (x C dx : Addr) (es : List DictEntry) (n : Nat) : Prop where
 at_ : h.get? x = some ⟨.ref C, some dx, .plain, #[]⟩
 dict : h.get? dx = some (dictOf es n)
theorem Inst.instAt {h : Heap} {x C dx es n} (I : Inst h x C dx es n) : InstAt h x ⟨.ref C, some dx, .plain, #[]⟩ C (some (dictOf es n)) := ⟨I.at_, rfl, rfl, I.dict⟩
theorem Inst.keeps {g h : Heap} {x C dx es n} (I : Inst g x C dx es n) (k : Keep g h) : Inst h x C dx es n := ⟨k _ _ I.at_, k _ _ I.dict⟩
noncomputable def keepOnly (h : Heap) (p : Addr → Bool) : Heap := ⟨h.objs.mapIdx fun i o => if p i then o else { o with data := .freed }, h.life⟩
theorem keepOnly_get {h : Heap} {p : Addr → Bool} {b : Addr} {o : Obj} : (keepOnly h p).get? b = some o ↔ h.get? b = some o ∧ p b = true := by
 rw [Heap.get?_some_iff, Heap.get?_some_iff]
 show (h.objs.mapIdx _)[b]? = some o ∧ _ ↔ _
 rw [Array.getElem?_mapIdx]
 cases e : h.objs[b]? with
 | none => simp
 | some o' =>
  cases q : p b with
  | true => simp
  | false =>
   simp only [Option.map_some, Bool.false_eq_true, if_false, and_false, iff_false]
   rintro ⟨e', f⟩
   cases e'
   simp [Obj.isFreed] at f
theorem keepOnly_own {g h : Heap} {a b : Addr} {o : Obj} : (keepOnly h fun b => (g.get? b).isSome || b == a).get? b = some o ↔ h.get? b = some o ∧ (g.get? b ≠ none ∨ b = a) := by
 rw [keepOnly_get]; simp [Option.isSome_iff_ne_none]
noncomputable def grow (g h h' : Heap) : Heap := keepOnly h' fun b => (g.get? b).isSome || (h.get? b).isNone
theorem grow_get {g h h' : Heap} {b : Addr} {o : Obj} : (grow g h h').get? b = some o ↔ h'.get? b = some o ∧ (g.get? b ≠ none ∨ h.get? b = none) := by
 unfold grow
 rw [keepOnly_get]
 simp [Option.isSome_iff_ne_none]
noncomputable def RO : Addr → Prop := fun _ => False
structure Ext (V : Addr → Prop) (g h g' h' : Heap) : Prop where
 gg : Keep g g'
 gh : Keep g' h'
 old : ∀ b o, ¬ V b → h.get? b = some o → h'.get? b = some o
 live : ∀ b, h.get? b ≠ none → h'.get? b ≠ none
 fresh : ∀ b, g'.get? b ≠ none → g.get? b = none → V b ∨ h.get? b = none
theorem Ext.refl {V : Addr → Prop} {g h : Heap} (k : Keep g h) : Ext V g h g h := ⟨Keep.refl _, k, fun _ _ _ e => e, fun _ e => e, fun _ a b => absurd b a⟩
theorem Ext.trans {V V' : Addr → Prop} {g h g₁ h₁ g₂ h₂ : Heap} (x : Ext V g h g₁ h₁) (y : Ext V' g₁ h₁ g₂ h₂) (hv : ∀ b, V' b → V b ∨ h.get? b = none) : Ext V g h g₂ h₂ := by
 refine ⟨x.gg.trans y.gg, y.gh, fun b o nv e => ?_, fun b e => y.live b (x.live b e), fun b e ne => ?_⟩
 ·refine y.old b o (fun v => ?_) (x.old b o nv e)
  rcases hv b v with q | q
  ·exact nv q
  ·rw [e] at q; cases q
 ·cases q : g₁.get? b with
  | some o => exact x.fresh b (by rw [q]; exact Option.some_ne_none _) ne
  | none =>
   rcases y.fresh b e q with v | z
   ·exact hv b v
   ·cases r : h.get? b with
    | none => exact .inr rfl
    | some o => exact absurd z (x.live b (by rw [r]; exact Option.some_ne_none _))
theorem Ext.weaken {V V' : Addr → Prop} {g h g' h' : Heap} (x : Ext V g h g' h') (hv : ∀ b, V b → V' b) : Ext V' g h g' h' := ⟨x.gg, x.gh, fun b o n => x.old b o fun v => n (hv b v), x.live, fun b e n => (x.fresh b e n).imp (hv b) id⟩
theorem Ext.keep {g h g' h' : Heap} (x : Ext RO g h g' h') : Keep h h' := fun b o e => x.old b o id e
noncomputable abbrev Ent := Addr × (Heap → Prop)
noncomputable def EntAt (g h : Heap) (e : Ent) : Prop := ∃ o, h.get? e.1 = some o ∧ ∀ h', Keep g h' → h'.get? e.1 = some o → e.2 h'
noncomputable def adr (ow : List Ent) : Addr → Prop := fun b => ∃ e ∈ ow, e.1 = b
structure Own (g h : Heap) (ow : List Ent) : Prop where
 at_ : ∀ e ∈ ow, EntAt g h e
 nd : (ow.map (·.1)).Nodup
 off : ∀ e ∈ ow, g.get? e.1 = none
theorem Own.nil {g h : Heap} : Own g h [] := ⟨fun _ m => (List.not_mem_nil m).elim, List.nodup_nil, fun _ m => (List.not_mem_nil m).elim⟩
theorem EntAt.live {g h : Heap} {e : Ent} (x : EntAt g h e) : h.get? e.1 ≠ none := by obtain ⟨o, q, _⟩ := x; rw [q]; exact Option.some_ne_none _
theorem EntAt.now {g h : Heap} {e : Ent} (k : Keep g h) (x : EntAt g h e) : e.2 h := by obtain ⟨_, q, r⟩ := x; exact r h k q
theorem Own.ext {V : Addr → Prop} {g h g' h' : Heap} {ow : List Ent} (x : Ext V g h g' h') (w : Own g h ow) (hv : ∀ e ∈ ow, ¬ V e.1) : Own g' h' ow := by
 refine ⟨fun e m => ?_, w.nd, fun e m => ?_⟩
 ·obtain ⟨o, q, r⟩ := w.at_ e m
  exact ⟨o, x.old _ _ (hv e m) q, fun h'' k e' => r h'' (x.gg.trans k) e'⟩
 ·cases q : g'.get? e.1 with
  | none => rfl
  | some o =>
   rcases x.fresh e.1 (by rw [q]; exact Option.some_ne_none _) (w.off e m) with z | z
   ·exact absurd z (hv e m)
   ·exact absurd z (w.at_ e m).live
structure Fm (g : Heap) (L : Addr) (h : Heap) (m : Str → Option Value) : Prop where
 ns : h.Ns L m
 off : g.get? L = none
theorem Ns_at {h h' : Heap} {L : Addr} {m} (x : h.Ns L m) (e : ∀ o, h.get? L = some o → h'.get? L = some o) : h'.Ns L m := by obtain ⟨o, a, b, q, r⟩ := x; exact ⟨o, a, b, e _ q, r⟩
theorem Ns_some {h : Heap} {L : Addr} {m} (x : h.Ns L m) : h.get? L ≠ none := by obtain ⟨o, _, _, q, _⟩ := x; rw [q]; exact Option.some_ne_none _
structure Cur (V : Addr → Prop) (g₀ h₀ : Heap) (L : Addr) (g h : Heap) (m : Str → Option Value) (ow : List Ent) : Prop where
 X : Ext V g₀ h₀ g h
 F : Fm g L h m
 new : h₀.get? L = none
 O : Own g h ow
 nL : ∀ e ∈ ow, e.1 ≠ L
 vis : ∀ e ∈ ow, V e.1 ∨ h₀.get? e.1 = none
theorem Cur.call {V V' : Addr → Prop} {g₀ h₀ : Heap} {L : Addr} {g h g' h' : Heap} {m} {fr oc oc' : List Ent} (C : Cur V g₀ h₀ L g h m (fr ++ oc)) (x : Ext V' g h g' h')
  (hv : ∀ b, V' b → adr oc b) (O' : Own g' h' oc') (hn : ∀ e ∈ oc', adr oc e.1 ∨ h.get? e.1 = none) : Cur V g₀ h₀ L g' h' m (fr ++ oc') := by
 have nd := C.O.nd
 rw [List.map_append, List.nodup_append] at nd
 have hfr : ∀ e ∈ fr, ¬ adr oc e.1 := fun e me ⟨e', me', z⟩ => nd.2.2 e.1 (List.mem_map_of_mem me) e'.1 (List.mem_map_of_mem me') z.symm
 have hL : ¬ adr oc L := fun ⟨e', me', z⟩ => C.nL e' (memR me') z
 have Ofr : Own g h fr := ⟨fun e me => C.O.at_ e (memL me), nd.1, fun e me => C.O.off e (memL me)⟩
 have Ofr' := Ofr.ext x fun e me v => hfr e me (hv _ v)
 have vis : ∀ b, adr oc b → V b ∨ h₀.get? b = none := fun b ⟨e, me, z⟩ => z ▸ C.vis e (memR me)
 have old : ∀ b, h.get? b = none → h₀.get? b = none := fun b q => by
  cases r : h₀.get? b with
  | none => rfl
  | some o => exact absurd q (C.X.live b (by rw [r]; exact Option.some_ne_none _))
 refine ⟨C.X.trans x fun b v => vis b (hv b v), ⟨Ns_at C.F.ns fun o e => x.old L o (fun v => hL (hv _ v)) e, ?_⟩, C.new, ⟨fun e me => ?_, ?_, fun e me => ?_⟩, fun e me => ?_, fun e me => ?_⟩
 ·cases q : g'.get? L with
  | none => rfl
  | some o =>
   rcases x.fresh L (by rw [q]; exact Option.some_ne_none _) C.F.off with z | z
   ·exact absurd (hv _ z) hL
   ·exact absurd z (Ns_some C.F.ns)
 ·rcases List.mem_append.mp me with q | q
  ·exact Ofr'.at_ e q
  ·exact O'.at_ e q
 ·rw [List.map_append, List.nodup_append]
  refine (anI3 nd.1 O'.nd (fun a ha b hb z => ?_))
  obtain ⟨e, me, rfl⟩ := List.mem_map.mp ha
  obtain ⟨e', me', rfl⟩ := List.mem_map.mp hb
  rcases hn e' me' with q | q
  ·exact hfr e me (z ▸ q)
  ·exact (Ofr.at_ e me).live (z ▸ q)
 ·rcases List.mem_append.mp me with q | q
  ·exact Ofr'.off e q
  ·exact O'.off e q
 ·rcases List.mem_append.mp me with q | q
  ·exact C.nL e (memL q)
  ·rcases hn e q with z | z
   ·rintro rfl; exact hL z
   ·rintro rfl; exact Ns_some C.F.ns z
 ·rcases List.mem_append.mp me with q | q
  ·exact C.vis e (memL q)
  ·rcases hn e q with z | z
   ·exact vis _ z
   ·exact .inr (old _ z)
theorem Cur.ro {V : Addr → Prop} {g₀ h₀ : Heap} {L : Addr} {g h g' h' : Heap} {m} {ow : List Ent} (C : Cur V g₀ h₀ L g h m ow) (x : Ext RO g h g' h') : Cur V g₀ h₀ L g' h' m ow := by
 have := Cur.call (fr := ow) (oc := []) (oc' := []) (by rw [List.append_nil]; exact C) x (fun _ v => v.elim) .nil (fun _ m => absurd m List.not_mem_nil)
 rwa [List.append_nil] at this
theorem Cur.perm {V : Addr → Prop} {g₀ h₀ : Heap} {L : Addr} {g h : Heap} {m} {ow ow' : List Ent} (C : Cur V g₀ h₀ L g h m ow) (p : ow.Perm ow') : Cur V g₀ h₀ L g h m ow' :=
 ⟨C.X, C.F, C.new, ⟨fun e me => C.O.at_ e (p.mem_iff.mpr me), (p.map _).nodup_iff.mp C.O.nd, fun e me => C.O.off e (p.mem_iff.mpr me)⟩, fun e me => C.nL e (p.mem_iff.mpr me), fun e me => C.vis e (p.mem_iff.mpr me)⟩
theorem Cur.drop {V : Addr → Prop} {g₀ h₀ : Heap} {L : Addr} {g h : Heap} {m} {ow ow' : List Ent} (C : Cur V g₀ h₀ L g h m ow) (p : ow'.Sublist ow) : Cur V g₀ h₀ L g h m ow' :=
 ⟨C.X, C.F, C.new, ⟨fun e me => C.O.at_ e (p.subset me), (p.map _).nodup C.O.nd, fun e me => C.O.off e (p.subset me)⟩, fun e me => C.nL e (p.subset me), fun e me => C.vis e (p.subset me)⟩
theorem Cur.get {V : Addr → Prop} {g₀ h₀ : Heap} {L : Addr} {g h : Heap} {m} {ow : List Ent} (C : Cur V g₀ h₀ L g h m ow) (e : Ent) (me : e ∈ ow) : e.2 h := (C.O.at_ e me).now C.X.gh
theorem Cur.freeze {V : Addr → Prop} {g₀ h₀ : Heap} {L : Addr} {g h : Heap} {m} {l r : List Ent} {a : Addr} {Pr : Heap → Prop} (C : Cur V g₀ h₀ L g h m (l ++ (a, Pr) :: r)) :
  ∃ g', Cur V g₀ h₀ L g' h m (l ++ r) ∧ Keep g g' ∧ Pr g' ∧ (∀ o, h.get? a = some o → g'.get? a = some o) := by
 have ma : (a, Pr) ∈ l ++ (a, Pr) :: r := memR (mem0)
 obtain ⟨o, q, hp⟩ := C.O.at_ _ ma
 have hg : ∀ b o', (keepOnly h fun b => (g.get? b).isSome || b == a).get? b = some o' ↔ h.get? b = some o' ∧ (g.get? b ≠ none ∨ b = a) := fun b o' => keepOnly_own
 have kg : Keep g (keepOnly h fun b => (g.get? b).isSome || b == a) := fun b o' e => (hg b o').mpr ⟨C.X.gh b o' e, .inl (by rw [e]; exact Option.some_ne_none _)⟩
 have kh : Keep (keepOnly h fun b => (g.get? b).isSome || b == a) h := fun b o' e => ((hg b o').mp e).1
 have nw : ∀ b, (keepOnly h fun b => (g.get? b).isSome || b == a).get? b ≠ none → g.get? b ≠ none ∨ b = a := fun b e => by
  cases z : (keepOnly h fun b => (g.get? b).isSome || b == a).get? b with
  | none => exact absurd z e
  | some o' => exact ((hg b o').mp z).2
 have sub : (l ++ r).Sublist (l ++ (a, Pr) :: r) := List.Sublist.append_left (List.sublist_cons_self _ _) l
 have C' := C.drop sub
 have ne : ∀ e ∈ l ++ r, e.1 ≠ a := fun e me z => by
  have nd := C.O.nd
  have p : (l ++ (a, Pr) :: r).Perm ((a, Pr) :: (l ++ r)) := List.perm_middle
  have := (p.map (·.1)).nodup_iff.mp nd
  rw [List.map_cons, List.nodup_cons] at this
  exact this.1 (by have q := List.mem_map_of_mem (f := fun x : Ent => x.1) me; rw [z] at q; exact q)
 have off : ∀ b, g.get? b = none → b ≠ a → (keepOnly h fun b => (g.get? b).isSome || b == a).get? b = none := fun b e n => by
  cases z : (keepOnly h fun b => (g.get? b).isSome || b == a).get? b with
  | none => rfl
  | some o' => exact absurd (nw b (by rw [z]; exact Option.some_ne_none _)) (by simp [e, n])
 refine ⟨_, (anI4 ⟨⟨C.X.gg.trans kg, kh, C.X.old, C.X.live, fun b e n => ?_⟩, ⟨C.F.ns, off _ C.F.off fun z => C.nL _ ma z.symm⟩, C.new, ⟨fun e me => ?_, C'.O.nd, fun e me => off _ (C'.O.off e me) (ne e me)⟩, C'.nL, C'.vis⟩ kg (hp _ kg ((hg a o).mpr ⟨q, .inr rfl⟩)) (fun o' e => (hg a o').mpr ⟨e, .inr rfl⟩))⟩
 ·rcases nw b e with z | z
  ·exact C.X.fresh b z n
  ·exact z ▸ C.vis _ ma
 ·obtain ⟨o', q', r'⟩ := C'.O.at_ e me
  exact ⟨o', q', fun h' k e' => r' h' (kg.trans k) e'⟩
theorem Ext.grow {g h h' : Heap} (gh : Keep g h) (k : Keep h h') : Ext RO g h (grow g h h') h' :=
 ⟨fun b o e => grow_get.mpr ⟨k _ _ (gh _ _ e), .inl (by rw [e]; exact Option.some_ne_none _)⟩, fun b o e => (grow_get.mp e).1, fun b o _ e => k _ _ e,
  live_of_keep k, fun b e ne => by
  cases q : (Mine.grow g h h').get? b with
  | none => exact absurd q e
  | some o => exact .inr ((grow_get.mp q).2.resolve_left fun z => z ne)⟩
theorem Ext.same {V : Addr → Prop} {g h h' : Heap} {a : Addr} (gh : Keep g h) (hs : Heap.SameBut a h h') (hv : V a) (hg : g.get? a = none) (hl : h'.get? a ≠ none) : Ext V g h g h' :=
 ⟨Keep.refl _, fun b o e => (hs.2 b fun z => by rw [z, hg] at e; cases e).trans (gh _ _ e), fun b o n e => (hs.2 b fun z => n (z ▸ hv)).trans e,
  fun b e => by
  by_cases z : b = a
  ·rw [z]; exact hl
  ·rw [hs.2 b z]; exact e,
  fun b e ne => absurd ne e⟩
theorem Cur.upd {V : Addr → Prop} {g₀ h₀ : Heap} {L : Addr} {g h h' : Heap} {m} {l r : List Ent} {a : Addr} {Pr Pr' : Heap → Prop} (C : Cur V g₀ h₀ L g h m (l ++ (a, Pr) :: r))
  (hs : Heap.SameBut a h h') (hp : EntAt g h' (a, Pr')) : Cur V g₀ h₀ L g h' m (l ++ (a, Pr') :: r) := by
 have ma : (a, Pr) ∈ l ++ (a, Pr) :: r := memR (mem0)
 have x : Ext (fun b => b = a) g h g h' := Ext.same C.X.gh hs rfl (C.O.off _ ma) hp.live
 have p : (l ++ (a, Pr) :: r).Perm ((l ++ r) ++ [(a, Pr)]) := by
  refine List.perm_middle.trans ?_
  exact (List.perm_append_comm (l₁ := [(a, Pr)]) (l₂ := l ++ r))
 have p' : ((l ++ r) ++ [(a, Pr')]).Perm (l ++ (a, Pr') :: r) := (List.perm_append_comm (l₁ := l ++ r) (l₂ := [(a, Pr')])).trans (List.Perm.symm List.perm_middle)
 refine ((C.perm p).call (oc' := [(a, Pr')]) x (fun b z => ⟨_, List.mem_singleton.mpr rfl, z.symm⟩) ⟨fun e me => ?_, ?_, fun e me => ?_⟩ fun e me => ?_).perm p'
 ·rw [List.mem_singleton.mp me]; exact hp
 ·exact List.nodup_cons.mpr ⟨List.not_mem_nil, List.nodup_nil⟩
 ·rw [List.mem_singleton.mp me]; exact C.O.off (a, Pr) ma
 ·rw [List.mem_singleton.mp me]; exact .inl ⟨_, List.mem_singleton.mpr rfl, rfl⟩
theorem size_none (h : Heap) : h.get? h.objs.size = none := by
 cases q : h.get? h.objs.size with
 | none => rfl
 | some o => exact absurd (Heap.lt_size q) (Nat.lt_irrefl _)
theorem grow_push (g : Heap) {h : Heap} {o : Obj} (hf : o.isFreed = false) : (grow g h (h.push o)).get? h.objs.size = some o := grow_get.mpr ⟨Heap.get?_push_size h hf, .inr (size_none h)⟩
section
variable {w : World} {A : Around} {E : Value → Shared → Prop} {R : Result → Shared → Prop} {K : Frag} {g h : Heap} {gs : Array GenState} {dr : Drawn} {t : Tok} {os : OsState}
theorem enter {a : Addr} {name qual : Str} {r : Fn} {dV cdv : Value} {args : Args} {binds : List (Str × Value)} (V : Addr → Prop) (ow : List Ent) (O : Own g h ow) (hvis : ∀ e ∈ ow, V e.1)
  (gh : Keep g h) (X : K.In g) (lim : g.NoLimit) (hf : HasFn K a name qual r dV cdv) (hroom : A.depth < recursionLimit)
  (hbind : ∀ pm, BindsTo ⟨h, gs, dr, t, os⟩ (fnOf name qual r.params r.body r.scope dV .none .none pm none cdv .none) args binds)
  (hloc : ((binds.map (·.1)).all fun n => r.scope.names.lookup n == some .local) = true)
  (H : ∀ h₁ L t', Cur V g h L g h₁ (fun y => binds.reverse.lookup y) ow → Keep h h₁ →
   wpAny (model P w) (A.deeper (envOf qual r.scope L a cdv)) (execs r.body (envOf qual r.scope L a cdv))
    (fun fl s' => R (.ok (.ret (match fl with | .ret v => v | _ => .none))) s')
    (fun e s' => wpAny (model P w) (A.deeper (envOf qual r.scope L a cdv)) (leaving (envOf qual r.scope L a cdv) e) (fun _ s'' => R (.error e) s'') (fun e' s'' => R (.error e') s'') s')
    ⟨h₁, gs, dr, t', os⟩)
  (hco : r.scope.isCoroutine = false) (hgen : r.scope.isGenerator = false) (hk : r.scope.kind = .function) (hcell : ∀ x ∈ r.scope.names, x.2 ≠ .cell) :
  codeAny (model P w) A (.call (.ref a) args) R ⟨h, gs, dr, t, os⟩ := by
 obtain ⟨⟨pm, ho⟩, hcd⟩ := hf
 exact codeAny_call_def (fd := fnOf name qual r.params r.body r.scope dV .none .none pm none cdv .none) (body := r.body) (binds := binds) hroom (gh _ _ (X _ _ ho)) rfl (lim.keeps gh) (codeRec_of (X.keeps gh) hcd) rfl (hbind pm) hcell (fun y hy => by
   have := List.all_eq_true.mp hloc y.1 (List.mem_map_of_mem hy)
   simpa using this)
  (fun h₁ hns k => H h₁ _ _ ⟨⟨Keep.refl _, gh.trans k, fun b o _ e => k b o e, live_of_keep k, fun b e ne => absurd ne e⟩, ⟨hns, by
    cases q : g.get? h.objs.size with
    | none => rfl
    | some o => exact absurd (gh _ _ q) (by rw [size_none]; exact fun z => by cases z)⟩, size_none h,
    ⟨fun e me => (O.at_ e me).imp fun _ z => ⟨k _ _ z.1, z.2⟩, O.nd, O.off⟩, fun e me z => (O.at_ e me).live (by rw [z]; exact size_none h), fun e me => .inl (hvis e me)⟩ k) hco hgen hk
theorem attr_own {x C dx : Addr} {es n} {name : Str} {v : Value} {expr : Bool} {Q : Value → Shared → Prop} (gh : Keep g h) (X : K.In g) (I : Inst g x C dx es n)
  (hg : plainGet K C name = true) (hh : hasDictIn K C = true) (ha : findIn K (.ref C) name = some none) (hl : getL name es = some (some v)) (hv : handedIn v = true)
  (H : ∀ t', Q v ⟨h, gs, dr, t', os⟩) : wpAny (model P w) A (getAttr (.ref x) name expr) Q E ⟨h, gs, dr, t, os⟩ :=
 get_value (s := ⟨h, gs, dr, t, os⟩) (X.keeps gh) (I.keeps gh).instAt (plainGet_of hg).1 (findObj_own hh ha rfl hl) hv (H _)
section
variable {q : Str} {scope : Scope} {L a : Addr} {cd : Value} {g₀ h₀ : Heap} {V : Addr → Prop} {m : Str → Option Value} {ow : List Ent}
theorem nameL {x : Str} {pos : Pos} {v : Value} {Q : Value → Shared → Prop} (C : Cur V g₀ h₀ L g h m ow) (hv : m x = some v) (H : Q v ⟨h, gs, dr, t, os⟩)
  (hk : scope.kind = .function := by rfl) (hl : (envOf q scope L a cd).kindOf x = some .local := by rfl) (hd : (x == ("__debug__" : Str)) = false := by decide) :
  wpAny (model P w) A (eval (.Name x pos) (envOf q scope L a cd)) Q E ⟨h, gs, dr, t, os⟩ := wpAny_Name (wpAny_loadName_local (s := ⟨h, gs, dr, t, os⟩) hk hl C.F.ns hv H) hd
theorem attrN {x attr : Str} {xp pos : Pos} {v : Value} {Q : Value → Shared → Prop}
  (C : Cur V g₀ h₀ L g h m ow) (hv : m x = some v) (H : wpAny (model P w) A (getAttr v attr true) Q E ⟨h, gs, dr, t, os⟩)
  (hk : scope.kind = .function := by rfl) (hl : (envOf q scope L a cd).kindOf x = some .local := by rfl)
  (hd : (x == ("__debug__" : Str)) = false := by decide)
  (he : eval (.Attribute (.Name x xp) attr pos) (envOf q scope L a cd) = (do
   let o ← eval (.Name x xp) (envOf q scope L a cd)
   standAt pos.atName
   let r ← holding [o] (getAttr o attr true)
   letTemporaryGo (.Name x xp) o r
   pure r) := by with_unfolding_all rfl) :
  wpAny (model P w) A (eval (.Attribute (.Name x xp) attr pos) (envOf q scope L a cd)) Q E ⟨h, gs, dr, t, os⟩ :=
 Attribute_Name_ (nameL C hv H hk hl hd) he
theorem storeL {x : Str} {v : Value} {Q : Unit → Shared → Prop} (C : Cur V g₀ h₀ L g h m ow)
  (H : ∀ h' t', Cur V g₀ h₀ L g h' (fun y => if y = x then some v else m y) ow → Heap.SameBut L h h' → Q () ⟨h', gs, dr, t', os⟩)
  (hk : scope.kind = .function := by rfl) (hl : (envOf q scope L a cd).kindOf x = some .local := by rfl) :
  wpAny (model P w) A (storeName (envOf q scope L a cd) x v) Q E ⟨h, gs, dr, t, os⟩ :=
 wpAny_storeName_local (s := ⟨h, gs, dr, t, os⟩) hl C.F.ns (fun h' hn hs =>
  have x : Ext (fun b => b = L) g h g h' := Ext.same (V := fun b => b = L) C.X.gh hs rfl C.F.off (Ns_some hn)
  H h' _ ⟨C.X.trans x (fun b z => .inr (z ▸ C.new)), ⟨hn, C.F.off⟩, C.new, C.O.ext x fun e me => C.nL e me, C.nL, C.vis⟩ hs)
  (by show (scope.kind == .class || (scope.kind == .module && L != mainGlobals)) = false; rw [hk]; rfl)
theorem assignL {x : Str} {px pos : Pos} {e : Expr} {Q : Flow → Shared → Prop} {s : Shared}
  (H : wpAny (model P w) A (eval e (envOf q scope L a cd)) (fun v s₁ => wpAny (model P w) A (storeName (envOf q scope L a cd) x v) (fun _ => Q .next) E s₁) E s)
  (hs : swapsWith e (some (.Name x px)) pos.line (envOf q scope L a cd) = pure false := by rfl) :
  wpAny (model P w) A (exec (.Assign [.Name x px] e pos) (envOf q scope L a cd)) Q E s := wpAny_Assign_Name H hs
theorem allocC {o : Obj} {Q : Addr → Shared → Prop} (C : Cur V g₀ h₀ L g h m ow) (hf : o.isFreed = false)
  (H : ∀ d g' h', Cur V g₀ h₀ L g' h' m ow → Ext RO g h g' h' → g'.get? d = some o → h.get? d = none → Q d ⟨h', gs, dr, t, os⟩) : wpAny (model P w) A (alloc o) Q E ⟨h, gs, dr, t, os⟩ :=
 have x := Ext.grow C.X.gh (Keep.push h o)
 wpAny_alloc (s := ⟨h, gs, dr, t, os⟩) (H _ _ _ (C.ro x) x (grow_push g hf) (size_none h))
theorem dict0 {env : Env} {pos} {Q : Value → Shared → Prop} (C : Cur V g₀ h₀ L g h m ow)
  (H : ∀ d g' h', Cur V g₀ h₀ L g' h' m ow → Ext RO g h g' h' → g'.get? d = some { cls := .type "dict", data := .dict #[] } → h.get? d = none → Q (.ref d) ⟨h', gs, dr, t, os⟩) : wpAny (model P w) A (eval (.Dict [] [] pos) env) Q E ⟨h, gs, dr, t, os⟩ :=
 have x := Ext.grow C.X.gh (Keep.push h { cls := .type "dict", data := .dict #[] })
 wpAny_Dict_empty (s := ⟨h, gs, dr, t, os⟩) (H _ _ _ (C.ro x) x (grow_push g rfl) (size_none h))
end
theorem constI {env : Env} {i k pos} {Q : Value → Shared → Prop} (H : ∀ t', Q (.int i t') ⟨h, gs, dr, t + 1, os⟩) : wpAny (model P w) A (eval (.Constant (.int i) k pos) env) Q E ⟨h, gs, dr, t, os⟩ := wpAny_Constant_int (s := ⟨h, gs, dr, t, os⟩) (H _)
theorem constS {env : Env} {x : Str} {k pos} {Q : Value → Shared → Prop} (H : ∀ t', Q (.str x t') ⟨h, gs, dr, t + 1, os⟩) : wpAny (model P w) A (eval (.Constant (.str x) k pos) env) Q E ⟨h, gs, dr, t, os⟩ := wpAny_Constant_str (s := ⟨h, gs, dr, t, os⟩) (H _)
theorem constN {env : Env} {k pos} {Q : Value → Shared → Prop} {s : Shared} (H : Q .none s) : wpAny (model P w) A (eval (.Constant .none k pos) env) Q E s := wpAny_Constant_none H
theorem get2_ {KT : Type} [DecidableEq KT] {knd : KeyKind P w KT} {env : Env} {o e f : Expr} {apos pos : Pos} {Q : Value → Shared → Prop}
  (H : wpAny (model P w) A (eval o env) (fun ov s₁ => ∃ d f', ov = .ref d ∧ (d == sysModules) = false ∧ s₁.heap.MapOf knd d f' ∧ wpAny (model P w) A (eval e env) (fun key s₂ =>
   wpAny (model P w) A (eval f env) (fun dflt s₃ => ∃ h₃ t₃ k, s₃ = ⟨h₃, gs, dr, t₃, os⟩ ∧ knd.is k key = true ∧ h₃.MapOf knd d f' ∧ ∀ t', Q ((f' k).getD dflt) ⟨h₃, gs, dr, t', os⟩) E s₂) E s₁) E ⟨h, gs, dr, t, os⟩)
  (hbase : attributeBase o "get" env (eval o env) = eval o env := by with_unfolding_all rfl) (hline : (apos.endLine == pos.line) = true := by rfl)
  (htrees : backTo pos (starEach [e, f] env) = [(false, eval e env), (false, eval f env)] := by with_unfolding_all rfl) :
  wpAny (model P w) A (eval (.Call (.Attribute o "get" apos) [e, f] [] pos) env) Q E ⟨h, gs, dr, t, os⟩ := by
 refine wpAny_Call_method2_late hbase hline htrees (wpAny_mono H (fun ov s₁ h₁ => ?_) fun _ _ x => x)
 (refine exE2 h₁ fun d f' zr2 => anE4 zr2 fun ze1 hd hm h₂ => ?_; clear h₁ zr2; subst ze1)
 refine ⟨"dict", "dict.get", F.plainAttrs_dict, F.slot_dict_get, F.type_dict_get, hm.typeIs, hm.noDict, ?_⟩
 exact wpAny_dict_get2 (knd := knd) hd (wpAny_mono h₂ (fun key s₂ h₃ => wpAny_mono h₃ (fun dflt s₃ zz => by obtain ⟨h₃, t₃, k, e, a, b, c⟩ := zz; subst e; exact ⟨k, f', a, b, c _⟩) fun _ _ x => x) fun _ _ x => x)
end
end
section
open PySem PySem.W PyProof.Rows
theorem slot_none_hash : Slot "NoneType" "__hash__" "NoneType.__hash__" :=
 .of (owner := "NoneType") (n := "__hash__") (by rw [typeLookup_type, builtinLookup_eq_fast]; kernel_rfl) (by decide +kernel) (by decide +kernel) (by decide +kernel)
  (by first | exact .inl (by decide +kernel) | exact .inr (by decide +kernel)) (by rw [isSubtype_type]; kernel_rfl)
theorem entry_none_hash : entryFor table "NoneType.__hash__" = some Builtin.«NoneType.__hash__» := entryFor_of_tree (by kernel_rfl)
theorem args_none_hash (a : Value) : argsOk "NoneType.__hash__" ⟨[a], []⟩ := by unfold argsOk; kernel_rfl
section
variable {prog : Program} {w : World} {A : Around} {E : Value → Shared → Prop} {s : Shared}
theorem pyHash_none {Q : Int → Shared → Prop} (h : Q 0xFCA86420 { s with toks := s.toks + 1 }) : wpAny (model prog w) A (pyHash .none) Q E s := by
 unfold pyHash
 have hv : [Value.none].any Value.onHeap = false := rfl
 refine wpAny_bind ?_
 rw [cRoomFor, if_neg (by rw [hv]; exact Bool.false_ne_true)]; refine wpAny_pure ?_
 refine wpAny_bind (wpAny_specialOf (T := "NoneType") rfl slot_none_hash.lookup ?_)
 show wpAny _ _ (if (some (Value.builtin "NoneType.__hash__") == some Value.none) = true then _ else _) Q E s
 rw [if_neg (by rw [beq_builtin_none]; exact Bool.false_ne_true)]
 refine wpAny_bind (wpAny_specialOf (T := "NoneType") rfl slot_none_hash.lookup ?_)
 show wpAny _ _ (callSpecialIfBoundUnlessNone? .none "__hash__" _ >>= _) Q E s
 refine wpAny_bind (wpAny_callSpecialIfBoundUnlessNone?_slot (T := "NoneType") rfl slot_none_hash
  (wpAny_call_entry (T := "NoneType") slot_none_hash rfl entry_none_hash
   (show wpAny _ _ (do ret (← mkInt 0xFCA86420)) _ _ s from wpAny_ret_mkInt ?_) (args_none_hash _)))
 show wpAny _ _ (if (decide (-(2 : Int) ^ 63 ≤ 0xFCA86420) && decide ((0xFCA86420 : Int) < 2 ^ 63)) = true then _ else _) Q E _
 rw [if_pos (by decide)]
 exact wpAny_pure h
theorem eqBool_int_none {a : Int} {t : Tok} {Q : Bool → Shared → Prop} (h : Q false s) : wpAny (model prog w) A (eqBool (.int a t) .none) Q E s := by
 unfold eqBool
 refine wpAny_holding ?_
 rw [if_neg (show ¬ (Value.int a t == Value.none) = true from Bool.false_ne_true)]
 refine wpAny_bind (m := richCompare _ _ _) ?_
 have e : wpAny (model prog w) A (compareOp .Eq (.int a t) .none) (fun v s' => wpAny (model prog w) A (truthOfDropped v) Q E s') E s := EqNone.eq_int_none (wpAny_truthy_bool h)
 exact e
theorem eqBool_none_int {a : Int} {t : Tok} {Q : Bool → Shared → Prop} (h : Q false s) : wpAny (model prog w) A (eqBool .none (.int a t)) Q E s := by
 unfold eqBool
 refine wpAny_holding ?_
 rw [if_neg (show ¬ (Value.none == Value.int a t) = true from Bool.false_ne_true)]
 refine wpAny_bind (m := richCompare _ _ _) ?_
 have e : wpAny (model prog w) A (compareOp .Eq .none (.int a t)) (fun v s' => wpAny (model prog w) A (truthOfDropped v) Q E s') E s := EqNone.eq_none_int (wpAny_truthy_bool h)
 exact e
theorem eqBool_none_none {Q : Bool → Shared → Prop} (h : Q true s) : wpAny (model prog w) A (eqBool .none .none) Q E s := by
 unfold eqBool
 refine wpAny_holding ?_
 rw [if_pos (show (Value.none == Value.none) = true from rfl)]
 exact wpAny_bind (wpAny_rule (wpAny_pure h))
end
noncomputable def isOI : Option Int → Value → Bool
 | some i, v => Value.isInt i v
 | none, .none => true
 | none, _ => false
theorem isOI_some {i : Int} {v : Value} (h : isOI (some i) v = true) : ∃ t, v = .int i t := Value.isInt_shape h
theorem isOI_none {v : Value} (h : isOI none v = true) : v = .none := by cases v <;> simp_all [isOI]
noncomputable def oik (w : World) : KeyKind P w (Option Int) where
 is := isOI
 hash := fun k => match k with | some i => hashInt i | none => 0xFCA86420
 inj := fun v a b ha hb => by
  cases a with
  | none => cases b with
   | none => rfl
   | some j => obtain ⟨t, rfl⟩ := isOI_some hb; cases isOI_none ha
  | some i => obtain ⟨t, rfl⟩ := isOI_some ha; cases b with
   | none => cases isOI_none hb
   | some j => obtain ⟨u, e⟩ := isOI_some hb; injection e with e; rw [e]
 byValue := fun k v h => by
  cases k with
  | none => cases isOI_none h; rfl
  | some i => obtain ⟨t, rfl⟩ := isOI_some h; rfl
 pyHash := fun {A E s k v Q} hv h => by
  cases k with
  | none => cases isOI_none hv; exact pyHash_none h
  | some i => obtain ⟨t, rfl⟩ := isOI_some hv; exact wpAny_pyHash_int h
 eqBool := fun {A E s a b u v Q} hu hv h => by
  cases a with
  | none => cases isOI_none hu; cases b with
   | none => cases isOI_none hv; exact eqBool_none_none (by simpa using h)
   | some j => obtain ⟨t, rfl⟩ := isOI_some hv; exact eqBool_none_int (by simpa using h)
  | some i => obtain ⟨t, rfl⟩ := isOI_some hu; cases b with
   | none => cases isOI_none hv; exact eqBool_int_none (by simpa using h)
   | some j => obtain ⟨t, rfl⟩ := isOI_some hv; exact wpAny_eqBool_int (by rw [show (i == j) = decide (some i = some j) by simp [Bool.beq_eq_decide_eq]]; exact h)
 «strs» := fun k x t v h => by
  cases k with
  | none => simp [isOI] at h
  | some i => simp [isOI, Value.isInt] at h
theorem oik_int (w : World) (i : Int) (t : Tok) : (oik w).is (some i) (.int i t) = true := by simp [oik, isOI, Value.isInt]
theorem oik_none (w : World) : (oik w).is none .none = true := rfl
end
section
structure Dfa where
 tr : List (Int × List (Nat × Int))
 fin : Option Int → Bool
noncomputable def Dfa.next (D : Dfa) (q : Int) (c : Nat) : Option Int := (D.tr.lookup q).bind fun l => l.lookup c
noncomputable def Dfa.run (D : Dfa) : Int → List Nat → Option Int
 | q, [] => some q
 | q, c :: l => (D.next q c).bind fun r => D.run r l
theorem Dfa.run_append (D : Dfa) (l l' : List Nat) : ∀ q, D.run q (l ++ l') = (D.run q l).bind fun r => D.run r l' := by
 induction l with
 | nil => intro q; rfl
 | cons c l ih => intro q; show (D.next q c).bind _ = ((D.next q c).bind _).bind _; cases D.next q c <;> simp [ih]
noncomputable def Dfa.NoZero (D : Dfa) : Prop := ∀ q c, D.next q c ≠ some 0
noncomputable def Dfa.acc (D : Dfa) (l : List Nat) : Bool := D.fin (D.run 0 l)
noncomputable def putK {α β : Type} [DecidableEq α] (l : List (α × β)) (k : α) (v : β) : List (α × β) :=
 if l.any (fun kv => kv.1 = k) then l.map (fun kv => if kv.1 = k then (kv.1, v) else kv) else l ++ [(k, v)]
noncomputable def addTr (tr : List (Int × List (Nat × Int))) (q : Int) (c : Nat) (i : Int) : List (Int × List (Nat × Int)) :=
 if tr.any (fun x => x.1 = q) then tr.map (fun x => if x.1 = q then (x.1, putK x.2 c i) else x) else tr ++ [(q, [(c, i)])]
noncomputable def upL (l : List (Nat × Int)) : Prop := (l.map (·.1)).Pairwise (· < ·)
structure AN where
 n : Int
 fin : Bool
 l : List (Nat × Int)
structure Ab where
 fin : List Int
 seen : List ((List (Nat × Int) × Bool) × Int)
 tr : List (Int × List (Nat × Int))
 ns : List AN
noncomputable def addAll (tr : List (Int × List (Nat × Int))) (q : Int) (l : List (Nat × Int)) : List (Int × List (Nat × Int)) := l.foldl (fun tr x => addTr tr q x.1 x.2) tr
noncomputable def Ab.pop (last : List Nat) (a : Ab) : Option Ab := match a.ns with
 | [] => none
 | nd :: rest => match a.seen.lookup (nd.l, nd.fin) with
  | none => some { fin := if nd.fin then a.fin ++ [nd.n] else a.fin, seen := a.seen ++ [((nd.l, nd.fin), nd.n)], tr := addAll a.tr nd.n nd.l, ns := rest }
  | some this => match rest with
   | [] => none
   | p :: r => match last[r.length]? with
    | none => none
    | some c => some { a with tr := addAll a.tr this nd.l, ns := { p with l := putK p.l c this } :: r }
structure Ab.Good (a : Ab) : Prop where
 fin : a.fin.length ≤ 800
 seen : a.seen.length ≤ 800
 tr : a.tr.length ≤ 800
 inn : ∀ x ∈ a.tr, x.2.length ≤ 800
 ns : a.ns.length ≤ 800
 top : ∀ nd r, a.ns = nd :: r → upL nd.l ∧ nd.l.length < 64
 par : ∀ nd p r, a.ns = nd :: p :: r → p.l.length ≤ 800
inductive Pops (last : List Nat) (downto : Nat) : Ab → Ab → Prop
 | done {a : Ab} : a.ns.length ≤ downto → Pops last downto a a
 | step {a b c : Ab} : downto < a.ns.length → a.Good → a.pop last = some b → Pops last downto b c → Pops last downto a c
noncomputable def lcp : List Nat → List Nat → Nat
 | a :: as, b :: bs => if a = b then lcp as bs + 1 else 0
 | _, _ => 0
noncomputable def pushL : List AN → Int → List Nat → List AN
 | ns, _, [] => ns
 | [], _, _ :: _ => []
 | p :: r, c, x :: w => pushL (⟨c + 1, false, []⟩ :: { p with l := putK p.l x (c + 1) } :: r) (c + 1) w
noncomputable def finTop : List AN → List AN
 | [] => []
 | p :: r => { p with fin := true } :: r
structure Sb where
 ab : Ab
 c : Int
 last : List Nat
noncomputable def Sb.init : Sb := ⟨⟨[], [], [], [⟨0, false, []⟩]⟩, 0, []⟩
structure Ab.Room (a : Ab) : Prop where
 ns : a.ns.length ≤ 700
 l : ∀ p ∈ a.ns, p.l.length ≤ 700
inductive Goes : Sb → List (List Nat) → Option Sb → Prop
 | done {s : Sb} : s.ab.ns.length ≤ 1000 → s.last.length ≤ 60 → Goes s [] (some s)
 | bad {s : Sb} {w : List Nat} {ws : List (List Nat)} : ¬ s.last < w → Goes s (w :: ws) none
 | step {s : Sb} {a : Ab} {w : List Nat} {ws : List (List Nat)} {r : Option Sb} : s.last < w → w.length ≤ 60 → s.last.length ≤ 60 → s.ab.ns.length ≤ 1000 → Pops s.last (lcp s.last w + 1) s.ab a → a.ns ≠ [] → a.Room →
   Goes ⟨{ a with ns := finTop (pushL a.ns s.c (w.drop (lcp s.last w))) }, s.c + (w.drop (lcp s.last w)).length, w⟩ ws r → Goes s (w :: ws) r
theorem Goes.inv0 {s : Sb} {W : List (List Nat)} {r : Option Sb} (h : Goes s W r) :
  (W = [] ∧ r = some s ∧ s.ab.ns.length ≤ 1000 ∧ s.last.length ≤ 60) ∨ ∃ w ws, W = w :: ws ∧ ((r = none ∧ ¬ s.last < w) ∨ ∃ a : Ab, s.last < w ∧ w.length ≤ 60 ∧ s.last.length ≤ 60 ∧ s.ab.ns.length ≤ 1000 ∧ Pops s.last (lcp s.last w + 1) s.ab a ∧ a.ns ≠ [] ∧ a.Room ∧
   Goes ⟨{ a with ns := finTop (pushL a.ns s.c (w.drop (lcp s.last w))) }, s.c + (w.drop (lcp s.last w)).length, w⟩ ws r) := by
 cases h with
 | done a b => exact .inl (anI4 rfl rfl a b)
 | bad a => exact .inr (exI2 _ _ ⟨rfl, .inl ⟨rfl, a⟩⟩)
 | step a b c d e f k g => exact .inr (exI2 _ _ ⟨rfl, .inr ⟨_, anI8 a b c d e f k g⟩⟩)
theorem Goes.inv_nil {s : Sb} {r : Option Sb} (h : Goes s [] r) : r = some s ∧ s.ab.ns.length ≤ 1000 ∧ s.last.length ≤ 60 := by
 rcases h.inv0 with h | zc
 ·exact h.2
 ·(refine exE2 zc fun _ _ zr1 => anE2 zr1 fun e _ => ?_; clear zc zr1)
  exact absurd e.symm (List.cons_ne_nil _ _)
theorem Goes.inv_cons {s : Sb} {w : List Nat} {ws : List (List Nat)} {r : Option Sb} (h : Goes s (w :: ws) r) :
  (r = none ∧ ¬ s.last < w) ∨ ∃ a : Ab, s.last < w ∧ w.length ≤ 60 ∧ s.last.length ≤ 60 ∧ s.ab.ns.length ≤ 1000 ∧ Pops s.last (lcp s.last w + 1) s.ab a ∧ a.ns ≠ [] ∧ a.Room ∧
   Goes ⟨{ a with ns := finTop (pushL a.ns s.c (w.drop (lcp s.last w))) }, s.c + (w.drop (lcp s.last w)).length, w⟩ ws r := by
 rcases h.inv0 with h | zc
 ·exact absurd h.1 (List.cons_ne_nil _ _)
 ·(refine exE2 zc fun _ _ zr2 => anE2 zr2 fun e h => ?_; clear zc zr2)
  injection e with e1 e2
  rw [e1, e2]; exact h
noncomputable def Closes (s : Sb) (a : Ab) : Prop := if 1 < s.ab.ns.length then Pops s.last 0 s.ab a else a = s.ab
noncomputable def Dfa.arcs (D : Dfa) (q : Int) : List (Nat × Int) := (D.tr.lookup q).getD []
noncomputable def Dfa.labs (D : Dfa) (q : Int) : List Nat := (D.arcs q).map (·.1)
noncomputable def Dfa.edge (D : Dfa) (q : Int) (k : Nat) : Option Nat := (D.labs q).find? fun x => decide (k ≤ x)
noncomputable def Dfa.Up (D : Dfa) : Prop := ∀ q, upL (D.arcs q) ∧ (D.arcs q).length < 64
noncomputable def Dfa.trail (D : Dfa) : Int → List Nat → List Nat → List (List Nat × Int × Option Nat)
 | q, p, [] => [(p, q, none)]
 | q, p, c :: l => (p, q, some c) :: match D.next q c with
  | none => []
  | some r => D.trail r (p ++ [c]) l
inductive Dfa.Seeks (D : Dfa) : Nat → List (List Nat × Int × Option Nat) → Option (List Nat) → Prop
 | nil {n : Nat} : D.Seeks n [] none
 | miss {n : Nat} {p : List Nat} {q : Int} {lo : Option Nat} {st : List (List Nat × Int × Option Nat)} {r : Option (List Nat)} : (∀ c, lo = some c → c ≤ 100000) → D.edge q (lo.elim 0 (· + 1)) = none → D.Seeks n st r → D.Seeks (n + 1) ((p, q, lo) :: st) r
 | hit {n : Nat} {p : List Nat} {q : Int} {lo : Option Nat} {st : List (List Nat × Int × Option Nat)} {c : Nat} {i : Int} : (∀ c, lo = some c → c ≤ 100000) → p.length ≤ 500 → D.edge q (lo.elim 0 (· + 1)) = some c → D.next q c = some i → D.fin (some i) = true → D.Seeks (n + 1) ((p, q, lo) :: st) (some (p ++ [c]))
 | push {n : Nat} {p : List Nat} {q : Int} {lo : Option Nat} {st : List (List Nat × Int × Option Nat)} {c : Nat} {i : Int} {r : Option (List Nat)} : (∀ c, lo = some c → c ≤ 100000) → p.length ≤ 500 → D.edge q (lo.elim 0 (· + 1)) = some c → D.next q c = some i → D.fin (some i) = false →
   D.Seeks n ((p ++ [c], i, none) :: st) r → D.Seeks (n + 1) ((p, q, lo) :: st) r
end
section
open PySem PySem.W PyProof.Rows
noncomputable def ch (c : Nat) : Str := ⟨#[c]⟩
inductive ArcsAre : List (Str × Value) → List (Nat × Int) → Prop
 | nil : ArcsAre [] []
 | cons {c : Nat} {i : Int} {t : Tok} {kvs l} : ArcsAre kvs l → ArcsAre ((ch c, .int i t) :: kvs) ((c, i) :: l)
theorem ch_inj {a b : Nat} (h : ch a = ch b) : a = b := by simpa [ch] using h
theorem ArcsAre.at {kvs l} (h : ArcsAre kvs l) (c : Nat) : (∃ i t, l.lookup c = some i ∧ valueAt kvs (ch c) = some (.int i t)) ∨ (l.lookup c = none ∧ valueAt kvs (ch c) = none) := by
 induction h with
 | nil => exact .inr ⟨rfl, rfl⟩
 | @cons c' i t kvs l _ ih =>
  by_cases e : c = c'
  ·subst e
   exact .inl (exI2 i t ⟨(by simp), (by simp [valueAt])⟩)
  ·have hne : ¬ ch c' = ch c := fun q => e (ch_inj q).symm
   simp only [List.lookup_cons, valueAt, List.find?_cons, hne] at ih ⊢
   rw [beq_false_of_ne e]
   simpa using ih
noncomputable def ArcsAt (w : World) (h : Heap) (a : Addr) (l : List (Nat × Int)) : Prop := ∃ kvs, h.DictOf (SK w) a kvs ∧ ArcsAre kvs l
inductive TabAre (w : World) (h : Heap) : List (Int × Value) → List (Int × List (Nat × Int)) → Prop
 | nil : TabAre w h [] []
 | cons {q : Int} {a : Addr} {l kvs tr} : ArcsAt w h a l → (a == sysModules) = false → TabAre w h kvs tr → TabAre w h ((q, .ref a) :: kvs) ((q, l) :: tr)
theorem ArcsAt.keeps {w} {g h : Heap} {a l} (x : ArcsAt w g a l) (k : Keep g h) : ArcsAt w h a l := by obtain ⟨kvs, d, r⟩ := x; exact ⟨kvs, d.keep k, r⟩
theorem TabAre.keeps {w} {g h : Heap} {kvs tr} (x : TabAre w g kvs tr) (k : Keep g h) : TabAre w h kvs tr := by
 induction x with
 | nil => exact .nil
 | cons a b _ ih => exact .cons (a.keeps k) b ih
theorem TabAre.at {w} {h : Heap} {kvs tr} (x : TabAre w h kvs tr) (q : Int) : (∃ l a, tr.lookup q = some l ∧ valueAt kvs q = some (.ref a) ∧ ArcsAt w h a l ∧ (a == sysModules) = false) ∨ (tr.lookup q = none ∧ valueAt kvs q = none) := by
 induction x with
 | nil => exact .inr ⟨rfl, rfl⟩
 | @cons q' a l kvs tr h1 h2 _ ih =>
  by_cases e : q = q'
  ·subst e
   exact .inl (exI2 l a (anI4 (by simp) (by simp [valueAt]) h1 h2))
  ·have hne : ¬ q' = q := fun z => e z.symm
   simp only [List.lookup_cons, valueAt, List.find?_cons, hne] at ih ⊢
   rw [beq_false_of_ne e]
   simpa using ih
noncomputable def dfaEs (w : World) (t : Nat → Tok) (T D F O : Addr) : List DictEntry := [
 ⟨PyData.keyHash w.params "initial", .str "initial" (t 0), .int 0 (t 1)⟩,
 ⟨PyData.keyHash w.params "transitions", .str "transitions" (t 2), .ref T⟩,
 ⟨PyData.keyHash w.params "defaults", .str "defaults" (t 3), .ref D⟩,
 ⟨PyData.keyHash w.params "final_states", .str "final_states" (t 4), .ref F⟩,
 ⟨PyData.keyHash w.params "outlabels", .str "outlabels" (t 5), .ref O⟩]
inductive OV : Option Int → Value → Prop
 | int {i : Int} {t : Tok} : OV (some i) (.int i t)
 | none : OV none .none
theorem OV.is (w : World) {q v} (x : OV q v) : (oik w).is q v = true := by cases x with | int => exact oik_int w _ _ | none => rfl
theorem OV.scan {q v} (x : OV q v) : v.scannable = true := by cases x <;> rfl
structure DfaAt (w : World) (h : Heap) (d dx T Df F O : Addr) (D : Dfa) : Prop where
 inst : ∃ t n, Inst h d 245 dx (dfaEs w t T Df F O) n
 tab : ∃ kvs, h.DictOf (IK w) T kvs ∧ TabAre w h kvs D.tr
 dfl : h.DictOf (IK w) Df []
 fins : ∃ c, h.SetOf (oik w) F D.fin c
 sys : (T == sysModules) = false ∧ (Df == sysModules) = false
theorem SetOf_keep {w} {g h : Heap} {a : Addr} {S : Option Int → Bool} {c} (x : g.SetOf (oik w) a S c) (k : Keep g h) : h.SetOf (oik w) a S c := by obtain ⟨o, es, ep, t, ho, r⟩ := x; exact ⟨o, es, ep, t, k _ _ ho, r⟩
theorem DfaAt.keeps {w} {g h : Heap} {d dx T Df F O D} (x : DfaAt w g d dx T Df F O D) (k : Keep g h) : DfaAt w h d dx T Df F O D :=
 ⟨(by refine exE2 x.inst fun t n i => ?_; exact (exI2 t n (i.keeps k))), (by obtain ⟨kvs, a, b⟩ := x.tab; exact ⟨kvs, a.keep k, b.keeps k⟩), x.dfl.keep k, (by obtain ⟨c, a⟩ := x.fins; exact ⟨c, SetOf_keep a k⟩), x.sys⟩
structure Meth (K : Frag) (C : Addr) (name qual : Str) (f cd : Addr) (st : Stmt) (dV : Value) : Prop where
 fn : HasFn K f name qual (fnOfSt st) dV (.ref cd)
 pg : plainGet K C name = true
 fi : findIn K (.ref C) name = some (some (.ref f))
 isf : isFn K (.ref f) = true
 kp : keepIn K (.ref f) = true
structure KF (K : Frag) : Prop where
 mStart : Meth K 245 "start" "DFA.start" 170 169 (clsSt 5 1) .none
 mIsFinal : Meth K 245 "is_final" "DFA.is_final" 198 197 (clsSt 5 5) .none
 mNext : Meth K 245 "next_state" "DFA.next_state" 205 204 (clsSt 5 6) .none
 mAccept : Meth K 245 "accept" "FSA.accept" 135 134 (clsSt 4 13) (.ref 128)
 hh : hasDictIn K 245 = true
 dAccept : ∃ o n, K.lookup 128 = some o ∧ o.data = .seq #[.bool false] n
 pg : ∀ n : Str, n ∈ (["initial", "transitions", "defaults", "final_states", "outlabels"] : List Str) → plainGet K 245 n = true ∧ findIn K (.ref 245) n = some none
noncomputable abbrev back (Q E : Value → Shared → Prop) : Result → Shared → Prop := fun r s' => match r with | .ok (.ret v) => Q v s' | .ok _ => False | .error e => E e s'
section
variable {w : World} {A : Around} {E : Value → Shared → Prop} {K : Frag} {g h : Heap} {gs : Array GenState} {dr : Drawn} {t : Tok} {os : OsState}
 {q : Str} {scope : Scope} {L a : Addr} {cd : Value} {g₀ h₀ : Heap} {V : Addr → Prop} {m : Str → Option Value} {ow : List Ent}
theorem meth_ {x name qual : Str} {xp apos pos : Pos} {args : List Expr} {d C dx f fc : Addr} {st : Stmt} {dV : Value} {es n} {Q : Value → Shared → Prop}
  (c : Cur V g₀ h₀ L g h m ow) (X : K.In g) (hv : m x = some (.ref d)) (I : Inst g d C dx es n) (M : Meth K C name qual f fc st dV) (hl : getL name es = some none)
  (H : wpAny (model P w) A (callWith pos (.ref f) [.ref d] (backTo pos (starEach args (envOf q scope L a cd))) (backToKw pos (keywordEach [] (envOf q scope L a cd)))) Q E ⟨h, gs, dr, t, os⟩)
  (hk : scope.kind = .function := by rfl) (hx : (envOf q scope L a cd).kindOf x = some .local := by rfl) (hd : (x == ("__debug__" : Str)) = false := by decide)
  (he : eval (.Call (.Attribute (.Name x xp) name apos) args [] pos) (envOf q scope L a cd) = (do
   let ov ← eval (.Name x xp) (envOf q scope L a cd)
   standAt apos.atName
   let (f, first) ← holding [ov] (getMethod ov name (do return (← importBound (.Name x xp) (envOf q scope L a cd)).getD true))
   callWith pos f first (backTo pos (starEach args (envOf q scope L a cd))) (backToKw pos (keywordEach [] (envOf q scope L a cd)))) := by with_unfolding_all rfl) :
  wpAny (model P w) A (eval (.Call (.Attribute (.Name x xp) name apos) args [] pos) (envOf q scope L a cd)) Q E ⟨h, gs, dr, t, os⟩ := by
 refine methodCall_KW (nameL c hv ?_ hk hx hd) he
 exact method_fn (s := ⟨h, gs, dr, t, os⟩) (X.keeps c.X.gh) (I.keeps c.X.gh).instAt (plainGet_of M.pg).1 (plainGet_of M.pg).2 M.fi (beq_iff_eq.mp M.isf)
  (by show (lookIn name (dictOf es n)).map _ = _; rw [lookIn_dict, hl]; rfl) H
end
end
section
open PySem PySem.W PyProof.Rows
noncomputable def exEnt (b : Addr) (o : Obj) : Ent := (b, fun h => h.get? b = some o)
theorem Cur.change {V : Addr → Prop} {g₀ h₀ : Heap} {L : Addr} {g h h' : Heap} {m} {fe ow : List Ent} (C : Cur V g₀ h₀ L g h m (fe ++ ow))
  (k : ∀ b o, b ∉ fe.map (·.1) → h.get? b = some o → h'.get? b = some o) (hl : ∀ b ∈ fe.map (·.1), h'.get? b ≠ none) :
  ∃ fe', fe'.map (·.1) = fe.map (·.1) ∧ (∀ e ∈ fe', e.2 = fun h'' => h''.get? e.1 = h'.get? e.1) ∧ Cur V g₀ h₀ L g h' m (fe' ++ ow) := by
 have nd := C.O.nd
 rw [List.map_append, List.nodup_append] at nd
 have x : Ext (adr fe) g h g h' := by
  refine ⟨Keep.refl _, fun b o e => k b o (fun z => ?_) (C.X.gh b o e), fun b o nv e => k b o (fun z => nv ?_) e, fun b e => ?_, fun b e n => absurd n e⟩
  ·obtain ⟨e', me, rfl⟩ := List.mem_map.mp z
   rw [C.O.off e' (memL me)] at e; cases e
  ·obtain ⟨e', me, q⟩ := List.mem_map.mp z
   exact ⟨e', me, q⟩
  ·by_cases z : b ∈ fe.map (·.1)
   ·exact hl b z
   ·cases q : h.get? b with
    | none => exact absurd q e
    | some o => rw [k b o z q]; exact Option.some_ne_none _
 have P : (fe ++ ow).Perm (ow ++ fe) := List.perm_append_comm
 refine ⟨(fe.map fun e => (e.1, fun h'' => h''.get? e.1 = h'.get? e.1)), (anI3 (by simp) (fun e me => ?_) ?_)⟩
 ·obtain ⟨e', _, rfl⟩ := List.mem_map.mp me; rfl
 refine ((C.perm P).call x (fun _ v => v) ⟨fun e me => ?_, ?_, fun e me => ?_⟩ fun e me => ?_).perm List.perm_append_comm
 ·obtain ⟨e', me', rfl⟩ := List.mem_map.mp me
  cases q : h'.get? e'.1 with
  | none => exact absurd q (hl _ (List.mem_map_of_mem (f := fun x : Ent => x.1) me'))
  | some o => exact ⟨o, q, fun h'' _ e'' => e''⟩
 ·rw [List.map_map]; exact nd.1
 ·obtain ⟨e', me', rfl⟩ := List.mem_map.mp me
  exact C.O.off e' (memL me')
 ·obtain ⟨e', me', rfl⟩ := List.mem_map.mp me
  exact .inl ⟨e', me', rfl⟩
structure Feed (w : World) (A : Around) (env : Env) (target : Expr) (it : Value) (n : Nat) (gq : Heap) (wr : List Addr) (St : Nat → Heap → Prop) (Pm : Nat → (Str → Option Value) → (Str → Option Value) → Prop) : Prop where
 frame : ∀ i h h', Keep gq h' → St i h → (∀ b ∈ wr, ∀ o, h.get? b = some o → h'.get? b = some o) → St i h'
 item : ∀ {V : Addr → Prop} {g₀ h₀ g h : Heap} {m : Str → Option Value} {fe ow : List Ent} {gs : Array GenState} {dr : Drawn} {t : Tok} {os : OsState} (i : Nat) (Qe Qb : Shared → Prop) (E : Value → Shared → Prop),
  i < n → (∀ b ∈ wr, h₀.get? b = none) → Keep gq g → Cur V g₀ h₀ env.locals g h m (fe ++ ow) → fe.map (·.1) = wr → St i h →
  (∀ h' m' t' fe', fe'.map (·.1) = wr → (∀ e ∈ fe', e.2 = fun h'' => h''.get? e.1 = h'.get? e.1) → Cur V g₀ h₀ env.locals g h' m' (fe' ++ ow) → St (i + 1) h' → Pm i m m' → Qb ⟨h', gs, dr, t', os⟩) →
  wpAny (model P w) A (pyNext it) (fun r s₁ => match r with
   | none => Qe s₁
   | some v => wpAny (model P w) A (letOwnedTupleGo target it v) (fun _ s₁' => wpAny (model P w) A (assign target env v) (fun _ s₂ => Qb s₂) E s₁') E s₁) E ⟨h, gs, dr, t, os⟩
 done : ∀ {V : Addr → Prop} {g₀ h₀ g h : Heap} {m : Str → Option Value} {fe ow : List Ent} {gs : Array GenState} {dr : Drawn} {t : Tok} {os : OsState} (Qe Qb : Shared → Prop) (E : Value → Shared → Prop),
  (∀ b ∈ wr, h₀.get? b = none) → Keep gq g → Cur V g₀ h₀ env.locals g h m (fe ++ ow) → fe.map (·.1) = wr → St n h →
  (∀ h' t', Cur V g₀ h₀ env.locals g h' m ow → Qe ⟨h', gs, dr, t', os⟩) →
  wpAny (model P w) A (pyNext it) (fun r s₁ => match r with
   | none => Qe s₁
   | some v => wpAny (model P w) A (letOwnedTupleGo target it v) (fun _ s₁' => wpAny (model P w) A (assign target env v) (fun _ s₂ => Qb s₂) E s₁') E s₁) E ⟨h, gs, dr, t, os⟩
theorem Cur.gone {V : Addr → Prop} {g₀ h₀ : Heap} {L : Addr} {g h h' : Heap} {m} {fe ow : List Ent} (C : Cur V g₀ h₀ L g h m (fe ++ ow))
  (k : ∀ b o, b ∉ fe.map (·.1) → h.get? b = some o → h'.get? b = some o) (hk : ∀ b ∈ fe.map (·.1), h₀.get? b = none) : Cur V g₀ h₀ L g h' m ow := by
 have nd := C.O.nd
 rw [List.map_append, List.nodup_append] at nd
 have hL : L ∉ fe.map (·.1) := fun z => by
  obtain ⟨e, me, q⟩ := List.mem_map.mp z
  exact C.nL e (memL me) q
 refine ⟨⟨C.X.gg, fun b o e => k b o (fun z => ?_) (C.X.gh b o e), fun b o nv e => ?_, fun b e => ?_, C.X.fresh⟩, ⟨Ns_at C.F.ns fun o e => k L o hL e, C.F.off⟩, C.new, ⟨fun e me => ?_, nd.2.1, fun e me => C.O.off e (memR me)⟩,
  fun e me => C.nL e (memR me), fun e me => C.vis e (memR me)⟩
 ·obtain ⟨e', me, rfl⟩ := List.mem_map.mp z
  rw [C.O.off e' (memL me)] at e; cases e
 ·exact k b o (fun z => by rw [hk b z] at e; cases e) (C.X.old b o nv e)
 ·cases q : h.get? b with
  | none => exact absurd q (C.X.live b e)
  | some o => rw [k b o (fun z => e (hk b z)) q]; exact Option.some_ne_none _
 ·obtain ⟨o, q, r⟩ := C.O.at_ e (memR me)
  exact ⟨o, k _ _ (fun z => nd.2.2 e.1 z e.1 (List.mem_map_of_mem (f := fun x : Ent => x.1) me) rfl) q, r⟩
section
variable {w : World} {A : Around} {R : Result → Shared → Prop} {env : Env} {gs : Array GenState} {dr : Drawn} {os : OsState}
theorem forLoop {target : Expr} {body orelse : List Stmt} {it : Value} {n : Nat} {wr : List Addr} {St : Nat → Heap → Prop} {Pm : Nat → (Str → Option Value) → (Str → Option Value) → Prop}
  {V : Addr → Prop} {g₀ h₀ g h : Heap} {m : Str → Option Value} {fe ow : List Ent} {t : Tok}
  (D : Feed w A env target it n g wr St Pm) (J : Nat → Heap → (Str → Option Value) → List Ent → Prop)
  (C : Cur V g₀ h₀ env.locals g h m (fe ++ ow)) (hw : fe.map (·.1) = wr) (hnew : ∀ b ∈ wr, h₀.get? b = none) (hst : St 0 h) (j0 : J 0 g m ow)
  (step : ∀ i g₁ h₁ m₁ m₂ ow₁ fe₁ t₁, i < n → Keep g g₁ → J i g₁ m₁ ow₁ → Pm i m₁ m₂ → Cur V g₀ h₀ env.locals g₁ h₁ m₂ (fe₁ ++ ow₁) →
   wpAny (model P w) A (execs body env) (fun f s₃ => match f with
     | .next | .cont => ∃ g' h' m' ow' t', s₃ = ⟨h', gs, dr, t', os⟩ ∧ Keep g₁ g' ∧ Cur V g₀ h₀ env.locals g' h' m' (fe₁ ++ ow') ∧ J (i + 1) g' m' ow'
     | .brk => R (.ok .next) s₃
     | .ret v => R (.ok (.ret v)) s₃) (notedBy (model P w) A env fun e s' => R (.error e) s') ⟨h₁, gs, dr, t₁, os⟩)
  (fin : ∀ g₁ h₁ m₁ ow₁ t₁, Keep g g₁ → J n g₁ m₁ ow₁ → Cur V g₀ h₀ env.locals g₁ h₁ m₁ ow₁ →
   wpAny (model P w) A (execs orelse env) (fun f s₃ => R (.ok f) s₃) (notedBy (model P w) A env fun e s' => R (.error e) s') ⟨h₁, gs, dr, t₁, os⟩) :
  codeAny (model P w) A (.forLoop target it body orelse env) R ⟨h, gs, dr, t, os⟩ := by
 refine codeAny_forLoop_any (fun k s => ∃ i g₁ h₁ m₁ ow₁ fe₁ t₁, s = ⟨h₁, gs, dr, t₁, os⟩ ∧ k = n + 1 - i ∧ i ≤ n ∧ Keep g g₁ ∧ J i g₁ m₁ ow₁ ∧ Cur V g₀ h₀ env.locals g₁ h₁ m₁ (fe₁ ++ ow₁) ∧ fe₁.map (·.1) = wr ∧ St i h₁)
  ?_ (n + 1) (exI7 0 g h m ow fe t (anI8 rfl rfl (Nat.zero_le _) (Keep.refl _) j0 C hw hst))
 intro k s zI
 (refine exE7 zI fun i g₁ h₁ m₁ ow₁ fe₁ t₁ zr3 => anE8 zr3 fun ze1 ze2 hi kg hj C₁ hw₁ hst₁ => ?_; clear zI zr3; subst ze1; subst ze2)
 by_cases hlt : i < n
 ·refine D.item i _ _ _ hlt hnew kg C₁ hw₁ hst₁ fun h₂ m₂ t₂ fe₂ hw₂ hx₂ C₂ hst₂ hp => ?_
  refine wpAny_mono (step i g₁ h₂ m₁ m₂ ow₁ fe₂ t₂ hlt kg hj hp C₂) (fun f s₃ h₃ => ?_) fun _ _ x => x
  have nx : (∃ g' h' m' ow' t', s₃ = ⟨h', gs, dr, t', os⟩ ∧ Keep g₁ g' ∧ Cur V g₀ h₀ env.locals g' h' m' (fe₂ ++ ow') ∧ J (i + 1) g' m' ow') → ∃ m, m < n + 1 - i ∧ ∃ i g₁ h₁ m₁ ow₁ fe₁ t₁, s₃ = ⟨h₁, gs, dr, t₁, os⟩ ∧ m = n + 1 - i ∧ i ≤ n ∧ Keep g g₁ ∧ J i g₁ m₁ ow₁ ∧ Cur V g₀ h₀ env.locals g₁ h₁ m₁ (fe₁ ++ ow₁) ∧ fe₁.map (·.1) = wr ∧ St i h₁ := by
   intro zI
   (refine exE5 zI fun g' h' m' ow' t' zr4 => anE4 zr4 fun e k' C' hj' => ?_; clear zI zr4)
   refine ⟨(n + 1 - (i + 1)), ⟨(by omega), (exI7 (i + 1) g' h' m' ow' fe₂ t' (anI8 e rfl hlt (kg.trans k') hj' C' hw₂ (D.frame (i + 1) h₂ h' ((kg.trans k').trans C'.X.gh) hst₂ fun b mb o eo => ?_)))⟩⟩
   rw [← hw₂] at mb
   obtain ⟨e', me', rfl⟩ := List.mem_map.mp mb
   have := C'.get e' (memL me')
   rw [hx₂ e' me'] at this
   exact this.trans eo
  cases f with
  | next => exact nx h₃
  | cont => exact nx h₃
  | brk => exact h₃
  | ret v => exact h₃
 ·have : n = i := Nat.le_antisymm (Nat.not_lt.mp hlt) hi
  subst this
  exact D.done _ _ _ hnew kg C₁ hw₁ hst₁ fun h₂ t₂ C₂ => fin g₁ h₂ m₁ ow₁ t₂ kg hj C₂
end
theorem Feed.name {w : World} {A : Around} {env : Env} {x : Str} {px : Pos} {I : Addr} {fp wr : List Addr} {n : Nat} {Pv : Nat → Value → Prop} {St : Nat → Heap → Prop} {gq : Heap}
  (W : Walks P w A I fp wr n Pv St) (hfp : ∀ b ∈ fp, b ∈ wr ∨ gq.get? b ≠ none) (hlive : ∀ i h, St i h → ∀ b ∈ wr, h.get? b ≠ none) (hk : env.scope.kind = .function) (hl : env.kindOf x = some .local) :
  Feed w A env (.Name x px) (.ref I) n gq wr (fun i h => St i h ∧ Keep gq h) (fun i m m' => ∃ v, Pv i v ∧ m' = fun y => if y = x then some v else m y) where
 frame := fun i h h' k st e => ⟨W.frame i h h' st.1 fun b mb o eo => by
  rcases hfp b mb with q | q
  ·exact e b q o eo
  ·cases z : gq.get? b with
   | none => exact absurd z q
   | some o' =>
    have := st.2 b o' z
    rw [eo] at this; cases this
    exact k b o z, k⟩
 item := by
  intro V g₀ h₀ g h m fe ow gs dr t os i Qe Qb E hi _ kg C hw st H
  refine W.item i _ _ _ hi st.1 fun v h₁ t₁ hv st₁ k₁ => ?_
  (refine Exists.elim (C.change (h' := h₁) (fun b o nb e => k₁ b o (by rw [← hw]; exact nb) e) fun b mb => hlive _ _ st₁ b (by rw [← hw]; exact mb)) fun fe₁ zr5 => anE3 zr5 fun hw₁ hx₁ C₁ => ?_; clear zr5)
  refine wpAny_pure ?_
  refine wpAny_assign_Name (wpAny_storeName_local (s := ⟨h₁, gs, dr, t₁, os⟩) hl C₁.F.ns (fun h' hn hs => ?_) (by rw [hk]; rfl))
  have hLL : ∀ e ∈ fe₁ ++ ow, e.1 ≠ env.locals := C₁.nL
  have C₂ : Cur V g₀ h₀ env.locals g h' (fun y => if y = x then some v else m y) (fe₁ ++ ow) :=
   have xx : Ext (fun b => b = env.locals) g h₁ g h' := Ext.same (V := fun b => b = env.locals) C₁.X.gh hs rfl C₁.F.off (Ns_some hn)
   ⟨C₁.X.trans xx (fun b z => .inr (z ▸ C₁.new)), ⟨hn, C₁.F.off⟩, C₁.new, C₁.O.ext xx fun e me => C₁.nL e me, C₁.nL, C₁.vis⟩
  have ne : ∀ b ∈ wr, b ≠ env.locals := fun b mb => by
   rw [← hw, ← hw₁] at mb
   obtain ⟨e, me, rfl⟩ := List.mem_map.mp mb
   exact hLL e (memL me)
  have kq : Keep gq h' := kg.trans C₂.X.gh
  refine H h' _ _ fe₁ (hw₁.trans hw) (fun e me => ?_) C₂ ⟨W.frame _ _ _ st₁ fun b mb o eo => ?_, kq⟩ ⟨v, hv, rfl⟩
  ·rw [hx₁ e me, hs.2 e.1 (hLL e (memL me))]
  ·rcases hfp b mb with q | q
   ·rw [hs.2 b (ne b q)]; exact eo
   ·cases z : gq.get? b with
    | none => exact absurd z q
    | some o' =>
     have := (kg.trans C₁.X.gh) b o' z
     rw [eo] at this; cases this
     exact kq b o z
 done := by
  intro V g₀ h₀ g h m fe ow gs dr t os Qe Qb E hnew kg C hw st H
  exact W.done _ _ _ st.1 fun h' t' k => H h' t' (C.gone (fun b o nb e => k b o (by rw [← hw]; exact nb) e) fun b mb => hnew b (by rw [← hw]; exact mb))
theorem Cur.storeX {w : World} {A : Around} {E : Value → Shared → Prop} {gs : Array GenState} {dr : Drawn} {t : Tok} {os : OsState} {env : Env} {V : Addr → Prop} {g₀ h₀ g h : Heap} {m : Str → Option Value} {ow : List Ent}
  {x : Str} {v : Value} {Q : Unit → Shared → Prop} (C : Cur V g₀ h₀ env.locals g h m ow)
  (H : ∀ h' t', Cur V g₀ h₀ env.locals g h' (fun y => if y = x then some v else m y) ow → Heap.SameBut env.locals h h' → Q () ⟨h', gs, dr, t', os⟩)
  (hk : env.scope.kind = .function) (hl : env.kindOf x = some .local) :
  wpAny (model P w) A (storeName env x v) Q E ⟨h, gs, dr, t, os⟩ :=
 wpAny_storeName_local (s := ⟨h, gs, dr, t, os⟩) hl C.F.ns (fun h' hn hs =>
  have x : Ext (fun b => b = env.locals) g h g h' := Ext.same (V := fun b => b = env.locals) C.X.gh hs rfl C.F.off (Ns_some hn)
  H h' _ ⟨C.X.trans x (fun b z => .inr (z ▸ C.new)), ⟨hn, C.F.off⟩, C.new, C.O.ext x fun e me => C.nL e me, C.nL, C.vis⟩ hs)
  (by rw [hk]; rfl)
structure Pairs (w : World) (A : Around) (I : Addr) (fp wr : List Addr) (n : Nat) (Pt : Nat → Array Value → Prop) (St : Nat → Heap → Prop) (Mid : Nat → Addr → Heap → Prop) : Prop where
 frame : ∀ i h h', St i h → (∀ b ∈ fp, ∀ o, h.get? b = some o → h'.get? b = some o) → St i h'
 item : ∀ i (s : Shared) (Q : Option Value → Shared → Prop) (E : Value → Shared → Prop), i < n → St i s.heap →
  (∀ T vals h' tk, Pt i vals → h'.IsTuple T vals → Mid i T h' → (∀ b o, b ∉ wr → s.heap.get? b = some o → h'.get? b = some o) → Q (some (.ref T)) { s with heap := h', toks := tk }) →
  wpAny (model P w) A (pyNext (.ref I)) Q E s
 go : ∀ (elts : List Expr) (k : Nat) (pos : Pos) i T (s : Shared) (Q : Unit → Shared → Prop) (E : Value → Shared → Prop), Mid i T s.heap →
  (∀ h', St (i + 1) h' → (∀ b o, b ∉ wr → s.heap.get? b = some o → h'.get? b = some o) → Q () { s with heap := h' }) →
  wpAny (model P w) A (letOwnedTupleGo (.Tuple elts k pos) (.ref I) (.ref T)) Q E s
 apart : ∀ i T h, Mid i T h → T ∉ wr
 done : ∀ (s : Shared) (Q : Option Value → Shared → Prop) (E : Value → Shared → Prop), St n s.heap →
  (∀ h' tk, (∀ b o, b ∉ wr → s.heap.get? b = some o → h'.get? b = some o) → Q none { s with heap := h', toks := tk }) → wpAny (model P w) A (pyNext (.ref I)) Q E s
theorem Pairs.of {w : World} {A : Around} {I : Addr} {fp wr : List Addr} {n : Nat} {Pt : Nat → Array Value → Prop} {St : Nat → Heap → Prop} {Mid : Nat → Addr → Heap → Prop}
  (W : WalksT P w A I fp wr n Pt St Mid) : Pairs w A I fp wr n Pt St Mid :=
 ⟨W.frame, fun i s Q E hi st hQ => W.item i s Q E hi st fun T vals h' tk a _ b c d => hQ T vals h' tk a b c d, W.go, W.apart, W.done⟩
theorem arr_two {vals : Array Value} (h : vals.size = 2) : ∃ a b, vals = #[a, b] := by
 obtain ⟨l⟩ := vals
 cases l with
 | nil => cases h
 | cons a l =>
  cases l with
  | nil => cases h
  | cons b l =>
   cases l with
   | nil => exact (exI2 a b rfl)
   | cons c l => exact absurd h (by simp)
theorem Feed.pair {w : World} {A : Around} (hh : A.handled = none) {env : Env} {x y : Str} {px py pt : Pos} {k0} {I : Addr} {fp wr : List Addr} {n : Nat} {Pt : Nat → Array Value → Prop} {St : Nat → Heap → Prop} {Mid : Nat → Addr → Heap → Prop} {gq : Heap}
  (W : Pairs w A I fp wr n Pt St Mid) (hfp : ∀ b ∈ fp, b ∈ wr ∨ gq.get? b ≠ none) (hlive : ∀ i h, St i h → ∀ b ∈ wr, h.get? b ≠ none)
  (hp : ∀ i vals, Pt i vals → vals.size = 2) (hk : env.scope.kind = .function) (hlx : env.kindOf x = some .local) (hly : env.kindOf y = some .local) :
  Feed w A env (.Tuple [.Name x px, .Name y py] k0 pt) (.ref I) n gq wr (fun i h => St i h ∧ Keep gq h)
   (fun i m m' => ∃ a b, Pt i #[a, b] ∧ m' = fun z => if z = y then some b else if z = x then some a else m z) where
 frame := fun i h h' k st e => ⟨W.frame i h h' st.1 fun b mb o eo => by
  rcases hfp b mb with q | q
  ·exact e b q o eo
  ·cases z : gq.get? b with
   | none => exact absurd z q
   | some o' =>
    have := st.2 b o' z
    rw [eo] at this; cases this
    exact k b o z, k⟩
 item := by
  intro V g₀ h₀ g h m fe ow gs dr t os i Qe Qb E hi _ kg C hw st H
  refine W.item i _ _ _ hi st.1 fun T vals h₁ t₁ hv iT mid k₁ => ?_
  (refine exE2 (arr_two (hp i vals hv)) fun a b ze6 => ?_; subst ze6)
  refine W.go _ _ _ i T _ _ _ mid fun h₂ st₂ k₂ => ?_
  have iT₂ : h₂.IsTuple T #[a, b] := iT.at fun o e => k₂ T o (W.apart _ _ _ mid) e
  (refine Exists.elim (C.change (h' := h₂) (fun b o nb e => k₂ b o (by rw [← hw]; exact nb) (k₁ b o (by rw [← hw]; exact nb) e)) fun b mb => hlive _ _ st₂ b (by rw [← hw]; exact mb)) fun fe₁ zr7 => anE3 zr7 fun hw₁ hx₁ C₁ => ?_; clear zr7)
  refine wpAny_assign_Tuple (s := ⟨h₂, gs, dr, _, os⟩) hh iT₂ rfl rfl fun h₃ hx₃ => ?_
  have k₃ : Keep h₂ h₃ := fun b o e => hx₃ b o (fun z => by
   have := size_none h₂
   rw [z] at e
   exact absurd (e.symm.trans this) (Option.some_ne_none _)) e
  have C₃ : Cur V g₀ h₀ env.locals g h₃ m (fe₁ ++ ow) := by
   obtain ⟨g', C', kg'⟩ : ∃ g', Cur V g₀ h₀ env.locals g' h₃ m (fe₁ ++ ow) ∧ g' = g := ⟨g, C₁.ro ⟨Keep.refl _, C₁.X.gh.trans k₃, fun b o _ e => k₃ b o e, live_of_keep k₃, fun b e n => absurd n e⟩, rfl⟩
   exact kg' ▸ C'
  have e₃ : ∀ e ∈ fe₁, h₃.get? e.1 = h₂.get? e.1 := fun e me => by
   cases z : h₂.get? e.1 with
   | none =>
    exact absurd z (hlive _ _ st₂ e.1 (by rw [← hw, ← hw₁]; exact List.mem_map_of_mem (f := fun x : Ent => x.1) me))
   | some o => exact k₃ _ _ z
  show wpAny _ _ (do holding [b] (assign (.Name x px) env a); do holding [] (assign (.Name y py) env b); pure ()) _ _ _
  refine wpAny_bind (wpAny_holding (wpAny_assign_Name (C₃.storeX (fun h₄ t₄ C₄ s₄ => ?_) hk hlx)))
  refine wpAny_bind (wpAny_holding (wpAny_assign_Name (C₄.storeX (fun h₅ t₅ C₅ s₅ => wpAny_pure ?_) hk hly)))
  have kq : Keep gq h₅ := kg.trans C₅.X.gh
  have ne : ∀ b ∈ wr, b ≠ env.locals := fun b mb => by
   rw [← hw, ← hw₁] at mb
   obtain ⟨e, me, rfl⟩ := List.mem_map.mp mb
   exact C₅.nL e (memL me)
  refine H h₅ _ _ fe₁ (hw₁.trans hw) (fun e me => ?_) C₅ ⟨W.frame _ _ _ st₂ fun b mb o eo => ?_, kq⟩ (exI2 a b ⟨hv, rfl⟩)
  ·have hne := C₅.nL e (memL me)
   rw [hx₁ e me, s₅.2 e.1 hne, s₄.2 e.1 hne, e₃ e me]
  ·rcases hfp b mb with q | q
   ·rw [s₅.2 b (ne b q), s₄.2 b (ne b q)]; exact k₃ _ _ eo
   ·cases z : gq.get? b with
    | none => exact absurd z q
    | some o' =>
     have := (kg.trans C₁.X.gh) b o' z
     rw [eo] at this; cases this
     exact kq b o z
 done := by
  intro V g₀ h₀ g h m fe ow gs dr t os Qe Qb E hnew kg C hw st H
  exact W.done _ _ _ st.1 fun h' t' k => H h' t' (C.gone (fun b o nb e => k b o (by rw [← hw]; exact nb) e) fun b mb => hnew b (by rw [← hw]; exact mb))
theorem Pairs.items {w : World} {K : Type} [DecidableEq K] {knd : KeyKind P w K} {A : Around} (hh : A.handled = none) (it d : Addr) (hne : d ≠ it) (kvs : List (K × Value)) (ep : Nat) :
  Pairs w A it [it, d] [it] kvs.length (fun i vals => ∃ k v key, kvs[i]? = some (k, v) ∧ knd.is k key = true ∧ vals = #[key, v])
   (fun i h => (∃ ok ov, IsItemIter h it d i kvs.length ep ok ov) ∧ h.DictAt knd d kvs ep) (fun i T h => (∃ ok ov, IsItemIterOut h it d (i + 1) kvs.length ep ok ov T) ∧ h.DictAt knd d kvs ep ∧ T ≠ it) where
 frame := fun i h h' st hk => ⟨(by refine exE2 st.1 fun ok ov q => ?_; exact (exI2 ok ov (hk it (by simp) _ q))), st.2.at fun o e => hk d (by simp) o e⟩
 item := fun i s Q E hi st hQ => by
  obtain ⟨⟨ok, ov, q⟩, hm⟩ := st
  obtain ⟨⟨k, v⟩, hx⟩ : ∃ p, kvs[i]? = some p := ⟨kvs[i], by simp [hi]⟩
  refine wpAny_pyNext_items_item q hm hx fun key h₁ hkey heo ht₁ hz₁ hk₁ => ?_
  refine hQ _ _ h₁ s.toks (exI3 k v key (anI3 hx hkey rfl)) ⟨_, ht₁, rfl, _, rfl⟩ (anI3 ((exI2 _ _ heo)) (hm.at fun o e => hk₁ d o hne e) (fun z => ?_)) fun b o nb e => hk₁ b o (fun z => nb (by simp [z])) e
  have := Heap.lt_size q
  rw [← z] at this
  exact Nat.lt_irrefl _ this
 go := fun elts k pos i T s Q E mid hQ => by
  (refine anE3 mid fun zo8 hm hT => ?_; clear mid; obtain ⟨ok, ov, q⟩ := zo8)
  exact wpAny_letOwnedTupleGo_items q fun h' hi hs => hQ h' ⟨(exI2 ok ov hi), hm.at fun o e => (hs.2 d hne).trans e⟩ fun b o nb e => (hs.2 b fun z => nb (by simp [z])).trans e
 apart := fun i T h mid z => mid.2.2 (by simpa using z)
 done := fun s Q E st hQ => by
  obtain ⟨⟨ok, ov, q⟩, hm⟩ := st
  exact wpAny_pyNext_items_end hh q hm (by simp) fun h' he => hQ h' s.toks fun b o nb e => he b o (fun z => nb (by simp [z])) e
end
section
open PySem PySem.W PyProof.Rows
noncomputable def st (l : List Nat) : Str := ⟨l.toArray⟩
theorem st_ch (c : Nat) : st [c] = ch c := rfl
theorem Cur.alloc {V : Addr → Prop} {g₀ h₀ : Heap} {L : Addr} {g h : Heap} {m} {ow : List Ent} (C : Cur V g₀ h₀ L g h m ow) {o : Obj} {Pr : Heap → Prop} (hf : o.isFreed = false)
  (hp : ∀ h', Keep g h' → h'.get? h.objs.size = some o → Pr h') : Cur V g₀ h₀ L g (h.push o) m ((h.objs.size, Pr) :: ow) ∧ h₀.get? h.objs.size = none := by
 have k := Keep.push h o
 have nw : h₀.get? h.objs.size = none := by
  cases q : h₀.get? h.objs.size with
  | none => rfl
  | some o' => exact absurd (size_none h) (C.X.live _ (by rw [q]; exact Option.some_ne_none _))
 have x : Ext RO g h g (h.push o) := ⟨Keep.refl _, C.X.gh.trans k, fun b o _ e => k b o e, live_of_keep k, fun b e n => absurd n e⟩
 refine ⟨?_, nw⟩
 refine ((C.perm (ow' := ow ++ []) (by rw [List.append_nil])).call (oc' := [(h.objs.size, Pr)]) x (fun _ v => v.elim) ⟨fun e me => ?_, ?_, fun e me => ?_⟩ fun e me => ?_).perm List.perm_append_comm
 ·rw [List.mem_singleton.mp me]; exact ⟨o, Heap.get?_push_size h hf, hp⟩
 ·exact List.nodup_cons.mpr ⟨List.not_mem_nil, List.nodup_nil⟩
 ·rw [List.mem_singleton.mp me]
  cases q : g.get? h.objs.size with
  | none => rfl
  | some o' => exact absurd (C.X.gh _ _ q) (by rw [size_none]; exact fun z => by cases z)
 ·rw [List.mem_singleton.mp me]; exact .inr (size_none h)
section
variable {w : World} {A : Around} {E : Value → Shared → Prop} {env : Env} {gs : Array GenState} {dr : Drawn} {os : OsState} {t : Tok}
 {V : Addr → Prop} {g₀ h₀ g h : Heap} {m : Str → Option Value} {ow : List Ent}
structure FeedN (w : World) (A : Around) (env : Env) (I : Addr) (n : Nat) (g h₀ : Heap) (fe : List Ent) (St : Nat → Heap → Prop) (Pv : Nat → Value → Prop) (h : Heap) : Prop where
 feed : ∀ y py, env.kindOf y = some .local → Feed w A env (.Name y py) (.ref I) n g (fe.map (·.1)) St (fun i m m' => ∃ v, Pv i v ∧ m' = fun z => if z = y then some v else m z)
 new : ∀ b ∈ fe.map (·.1), h₀.get? b = none
 st : St 0 h
theorem iterStr {x : Str} {tx : Tok} {Q : Value → Shared → Prop} (hh : A.handled = none) (hk : env.scope.kind = .function) (C : Cur V g₀ h₀ env.locals g h m ow)
  (H : ∀ I h' fe St, Cur V g₀ h₀ env.locals g h' m (fe ++ ow) → FeedN w A env I x.cps.size g h₀ fe St (SignAt x) h' → Q (.ref I) ⟨h', gs, dr, t, os⟩) :
  wpAny (model P w) A (pyIter (.str x tx)) Q E ⟨h, gs, dr, t, os⟩ := by
 cases ha : x.cps.all (· < 128)
 ·refine wpAny_pyIter_wide (s := ⟨h, gs, dr, t, os⟩) ha ?_
  obtain ⟨C', nw⟩ := C.alloc (o := { cls := .type "str_iterator", data := .fields #[.str x tx, .int 0 0] }) (Pr := fun _ => True) rfl fun _ _ _ => trivial
  refine H h.objs.size _ [(h.objs.size, fun _ => True)] _ C' ⟨fun y py hl => Feed.name (Walks.strWide hh _ x tx) (fun b mb => .inl mb) (fun i h st b mb => ?_) hk hl, fun b mb => ?_, ⟨⟨_, Heap.get?_push_size h rfl, rfl, rfl⟩, C'.X.gh⟩⟩
  ·obtain ⟨o, q, _⟩ := st
   rw [show b = _ from List.mem_singleton.mp mb, q]; exact Option.some_ne_none _
  ·rw [show b = _ from List.mem_singleton.mp mb]; exact nw
 ·refine wpAny_pyIter_ascii (s := ⟨h, gs, dr, t, os⟩) ha ?_
  obtain ⟨C', nw⟩ := C.alloc (o := { cls := .type "str_ascii_iterator", data := .fields #[.str x tx, .int 0 0] }) (Pr := fun _ => True) rfl fun _ _ _ => trivial
  refine H h.objs.size _ [(h.objs.size, fun _ => True)] _ C' ⟨fun y py hl => Feed.name (Walks.strAscii hh _ x tx) (fun b mb => .inl mb) (fun i h st b mb => ?_) hk hl, fun b mb => ?_, ⟨⟨_, Heap.get?_push_size h rfl, rfl, rfl⟩, C'.X.gh⟩⟩
  ·obtain ⟨o, q, _⟩ := st
   rw [show b = _ from List.mem_singleton.mp mb, q]; exact Option.some_ne_none _
  ·rw [show b = _ from List.mem_singleton.mp mb]; exact nw
theorem iterList {l : Addr} {items : Array Value} {Q : Value → Shared → Prop} (hh : A.handled = none) (hk : env.scope.kind = .function) (C : Cur V g₀ h₀ env.locals g h m ow) (hl : g.IsList l items)
  (H : ∀ I h' fe St, Cur V g₀ h₀ env.locals g h' m (fe ++ ow) → FeedN w A env I items.size g h₀ fe St (fun i v => items[i]? = some v) h' → Q (.ref I) ⟨h', gs, dr, t, os⟩) :
  wpAny (model P w) A (pyIter (.ref l)) Q E ⟨h, gs, dr, t, os⟩ := by
 have hl' : h.IsList l items := hl.at fun o e => C.X.gh _ _ e
 refine wpAny_pyIter_list (s := ⟨h, gs, dr, t, os⟩) hl' ?_
 obtain ⟨C', nw⟩ := C.alloc (o := { cls := .type "list_iterator", data := .fields #[.ref l, .int 0 0] }) (Pr := fun _ => True) rfl fun _ _ _ => trivial
 have hg : g.get? l ≠ none := by obtain ⟨o, q, _⟩ := hl; rw [q]; exact Option.some_ne_none _
 have hne : l ≠ h.objs.size := fun z => by
  obtain ⟨o, q, _⟩ := hl'
  rw [z, size_none] at q; cases q
 refine H h.objs.size _ [(h.objs.size, fun _ => True)] _ C' ⟨fun y py hl => Feed.name (Walks.list hh _ l hne items) (fun b mb => ?_) (fun i h st b mb => ?_) hk hl, fun b mb => ?_, ⟨⟨⟨_, Heap.get?_push_size h rfl, rfl, rfl⟩, hl.at fun o e => C'.X.gh _ _ e⟩, C'.X.gh⟩⟩
 ·rcases List.mem_cons.mp mb with q | q
  ·exact .inl (List.mem_singleton.mpr q)
  ·rw [List.mem_singleton.mp q]; exact .inr hg
 ·obtain ⟨⟨o, q, _⟩, _⟩ := st
  rw [show b = _ from List.mem_singleton.mp mb, q]; exact Option.some_ne_none _
 ·rw [show b = _ from List.mem_singleton.mp mb]; exact nw
end
section
variable {w : World} {A : Around} {E : Value → Shared → Prop} {R : Result → Shared → Prop} {env : Env} {gs : Array GenState} {dr : Drawn} {os : OsState} {t : Tok}
 {V : Addr → Prop} {g₀ h₀ g h : Heap} {m : Str → Option Value} {ow : List Ent} {target : Expr} {body orelse : List Stmt}
theorem forStr {x : Str} {tx : Tok} (hh : A.handled = none) (C : Cur V g₀ h₀ env.locals g h m ow)
  (H : ∀ I h' fe St, Cur V g₀ h₀ env.locals g h' m (fe ++ ow) → FeedN w A env I x.cps.size g h₀ fe St (SignAt x) h' → codeAny (model P w) A (.forLoop target (.ref I) body orelse env) R ⟨h', gs, dr, t, os⟩)
  (hk : env.scope.kind = .function := by rfl) :
  wpAny (model P w) A (pyIter (.str x tx)) (fun it s₂ => codeAny (model P w) A (.forLoop target it body orelse env) R s₂) E ⟨h, gs, dr, t, os⟩ := iterStr hh hk C H
theorem forList {l : Addr} {items : Array Value} (hh : A.handled = none) (C : Cur V g₀ h₀ env.locals g h m ow) (hl : g.IsList l items)
  (H : ∀ I h' fe St, Cur V g₀ h₀ env.locals g h' m (fe ++ ow) → FeedN w A env I items.size g h₀ fe St (fun i v => items[i]? = some v) h' → codeAny (model P w) A (.forLoop target (.ref I) body orelse env) R ⟨h', gs, dr, t, os⟩)
  (hk : env.scope.kind = .function := by rfl) :
  wpAny (model P w) A (pyIter (.ref l)) (fun it s₂ => codeAny (model P w) A (.forLoop target it body orelse env) R s₂) E ⟨h, gs, dr, t, os⟩ := iterList hh hk C hl H
end
section
variable {w : World} {A : Around} {E : Value → Shared → Prop} {K : Frag} {g h : Heap} {gs : Array GenState} {dr : Drawn} {t : Tok} {os : OsState}
 {q : Str} {scope : Scope} {L a : Addr} {cd : Value} {g₀ h₀ : Heap} {V : Addr → Prop} {m : Str → Option Value} {ow : List Ent}
theorem meth0_ {x name qual : Str} {xp apos pos : Pos} {d C dx f fc : Addr} {st : Stmt} {dV : Value} {es n} {Q : Value → Shared → Prop}
  (c : Cur V g₀ h₀ L g h m ow) (X : K.In g) (hv : m x = some (.ref d)) (I : Inst g d C dx es n) (M : Meth K C name qual f fc st dV) (hl : getL name es = some none)
  (H : codeAny (model P w) A (.call (.ref f) ⟨[.ref d], []⟩) (back Q E) ⟨h, gs, dr, t, os⟩)
  (hk : scope.kind = .function := by rfl) (hx : (envOf q scope L a cd).kindOf x = some .local := by rfl) (hd : (x == ("__debug__" : Str)) = false := by decide)
  (he : eval (.Call (.Attribute (.Name x xp) name apos) [] [] pos) (envOf q scope L a cd) = (do
   let ov ← eval (.Name x xp) (envOf q scope L a cd)
   standAt apos.atName
   let (f, first) ← holding [ov] (getMethod ov name (do return (← importBound (.Name x xp) (envOf q scope L a cd)).getD true))
   callWith pos f first (backTo pos (starEach [] (envOf q scope L a cd))) (backToKw pos (keywordEach [] (envOf q scope L a cd)))) := by with_unfolding_all rfl) :
  wpAny (model P w) A (eval (.Call (.Attribute (.Name x xp) name apos) [] [] pos) (envOf q scope L a cd)) Q E ⟨h, gs, dr, t, os⟩ :=
 meth_ c X hv I M hl (callWith_K0 (s := ⟨h, gs, dr, t, os⟩) (X.keeps c.X.gh) M.kp (wpAny_call H)) hk hx hd he
theorem meth1_ {x name qual : Str} {xp apos pos : Pos} {e : Expr} {d C dx f fc : Addr} {st : Stmt} {dV : Value} {es n} {Q : Value → Shared → Prop}
  (c : Cur V g₀ h₀ L g h m ow) (X : K.In g) (hv : m x = some (.ref d)) (I : Inst g d C dx es n) (M : Meth K C name qual f fc st dV) (hl : getL name es = some none)
  (H : wpAny (model P w) A (eval e (envOf q scope L a cd)) (fun v s₁ => K.In s₁.heap ∧ codeAny (model P w) A (.call (.ref f) ⟨[.ref d, v], []⟩) (back Q E) s₁) E ⟨h, gs, dr, t, os⟩)
  (hk : scope.kind = .function := by rfl) (hx : (envOf q scope L a cd).kindOf x = some .local := by rfl) (hd : (x == ("__debug__" : Str)) = false := by decide)
  (h1 : starEach [e] (envOf q scope L a cd) = (false, eval e (envOf q scope L a cd)) :: starEach [] (envOf q scope L a cd) := by rfl)
  (he : eval (.Call (.Attribute (.Name x xp) name apos) [e] [] pos) (envOf q scope L a cd) = (do
   let ov ← eval (.Name x xp) (envOf q scope L a cd)
   standAt apos.atName
   let (f, first) ← holding [ov] (getMethod ov name (do return (← importBound (.Name x xp) (envOf q scope L a cd)).getD true))
   callWith pos f first (backTo pos (starEach [e] (envOf q scope L a cd))) (backToKw pos (keywordEach [] (envOf q scope L a cd)))) := by with_unfolding_all rfl) :
  wpAny (model P w) A (eval (.Call (.Attribute (.Name x xp) name apos) [e] [] pos) (envOf q scope L a cd)) Q E ⟨h, gs, dr, t, os⟩ :=
 meth_ c X hv I M hl (callWith_K (h₀ := g) X M.kp (wpAny_items_cons (wpAny_mono H (fun v s₁ h₁ => wpAny_items_nil ⟨h₁.1, wpAny_call h₁.2⟩) fun _ _ x => x) h1) h1 rfl) hk hx hd he
theorem meth2_ {x name qual : Str} {xp apos pos : Pos} {e e' : Expr} {d C dx f fc : Addr} {st : Stmt} {dV : Value} {es n} {Q : Value → Shared → Prop}
  (c : Cur V g₀ h₀ L g h m ow) (X : K.In g) (hv : m x = some (.ref d)) (I : Inst g d C dx es n) (M : Meth K C name qual f fc st dV) (hl : getL name es = some none)
  (H : wpAny (model P w) A (eval e (envOf q scope L a cd)) (fun v s₁ => wpAny (model P w) A (eval e' (envOf q scope L a cd)) (fun v' s₂ => K.In s₂.heap ∧ codeAny (model P w) A (.call (.ref f) ⟨[.ref d, v, v'], []⟩) (back Q E) s₂) E s₁) E ⟨h, gs, dr, t, os⟩)
  (hk : scope.kind = .function := by rfl) (hx : (envOf q scope L a cd).kindOf x = some .local := by rfl) (hd : (x == ("__debug__" : Str)) = false := by decide)
  (h1 : starEach [e, e'] (envOf q scope L a cd) = (false, eval e (envOf q scope L a cd)) :: starEach [e'] (envOf q scope L a cd) := by rfl)
  (h2 : starEach [e'] (envOf q scope L a cd) = (false, eval e' (envOf q scope L a cd)) :: starEach [] (envOf q scope L a cd) := by rfl)
  (he : eval (.Call (.Attribute (.Name x xp) name apos) [e, e'] [] pos) (envOf q scope L a cd) = (do
   let ov ← eval (.Name x xp) (envOf q scope L a cd)
   standAt apos.atName
   let (f, first) ← holding [ov] (getMethod ov name (do return (← importBound (.Name x xp) (envOf q scope L a cd)).getD true))
   callWith pos f first (backTo pos (starEach [e, e'] (envOf q scope L a cd))) (backToKw pos (keywordEach [] (envOf q scope L a cd)))) := by with_unfolding_all rfl) :
  wpAny (model P w) A (eval (.Call (.Attribute (.Name x xp) name apos) [e, e'] [] pos) (envOf q scope L a cd)) Q E ⟨h, gs, dr, t, os⟩ :=
 meth_ c X hv I M hl (callWith_K (h₀ := g) X M.kp (wpAny_items_cons (wpAny_mono H (fun v s₁ h₁ => wpAny_items_cons (wpAny_mono h₁ (fun v' s₂ h₂ => wpAny_items_nil ⟨h₂.1, wpAny_call h₂.2⟩) fun _ _ x => x) h2) fun _ _ x => x) h1) h1 (by rw [h2]; rfl)) hk hx hd he
end
end
section
open PySem PySem.W PyProof.Rows
theorem oth {x y : Str} {v u : Option Value} {z : Value} (h : u = some z) (ne : y ≠ x := by decide) : (if y = x then v else u) = some z := (if_neg ne).trans h
theorem sam {x : Str} {v u : Option Value} : (if x = x then v else u) = v := if_pos rfl
theorem valueAt_nil {KT} [DecidableEq KT] (k : KT) : valueAt ([] : List (KT × Value)) k = none := rfl
section
variable {w : World} {A : Around} {R : Result → Shared → Prop} {K : Frag} {mg mb : Str → Option Value} {g h : Heap} {gs : Array GenState} {dr : Drawn} {t : Tok} {os : OsState}
 {d dx T Df F O : Addr} {D : Dfa} {q : Int} {tq tc : Tok} {c : Nat}
theorem start_spec (kf : KF K) (gh : Keep g h) (B : Base w K mg mb g) (hroom : A.depth < recursionLimit) (I : DfaAt w g d dx T Df F O D)
  (H : ∀ g' h' t' tv, Ext RO g h g' h' → R (.ok (.ret (.int 0 tv))) ⟨h', gs, dr, t', os⟩) :
  codeAny (model P w) A (.call (.ref 170) ⟨[.ref d], []⟩) R ⟨h, gs, dr, t, os⟩ := by
 refine exE2 I.inst fun td n I₀ => ?_
 refine enter RO [] .nil (fun _ m => absurd m List.not_mem_nil) (binds := [("self", .ref d)]) gh B.X B.lim kf.mStart.fn hroom (fun pm => .of_eq (by with_unfolding_all rfl)) (by rfl) (fun h₁ L t₁ C _ => ?_) (by rfl) (by rfl) (by rfl) (by decide +kernel)
 have p := kf.pg "initial" (by decide)
 exact wpAny_execs_cons (wpAny_Return_some (attrN C (by rfl) (attr_own C.X.gh B.X I₀ p.1 kf.hh p.2 (by rfl) rfl fun t₂ => H g h₁ _ _ C.X)))
theorem is_final_spec (kf : KF K) (gh : Keep g h) (B : Base w K mg mb g) (hroom : A.depth < recursionLimit) (I : DfaAt w g d dx T Df F O D) {q : Option Int} {v : Value} (hv : OV q v)
  (H : ∀ g' h' t', Ext RO g h g' h' → R (.ok (.ret (.bool (D.fin q)))) ⟨h', gs, dr, t', os⟩) :
  codeAny (model P w) A (.call (.ref 198) ⟨[.ref d, v], []⟩) R ⟨h, gs, dr, t, os⟩ := by
 refine exE2 I.inst fun td n I₀ => ?_
 obtain ⟨c, S⟩ := I.fins
 refine enter RO [] .nil (fun _ m => absurd m List.not_mem_nil) (binds := [("self", .ref d), ("state", v)]) gh B.X B.lim kf.mIsFinal.fn hroom (fun pm => .of_eq (by with_unfolding_all rfl)) (by rfl) (fun h₁ L t₁ C _ => ?_) (by rfl) (by rfl) (by rfl) (by decide +kernel)
 have p := kf.pg "final_states" (by decide)
 refine wpAny_execs_cons (wpAny_Return_some (wpAny_Compare1 (nameL C (by rfl) (attrN C (by rfl) (attr_own C.X.gh B.X I₀ p.1 kf.hh p.2 (by rfl) rfl fun t₂ => ?_)))))
 exact wpAny_inSet_of (s := ⟨h₁, gs, dr, t₂, os⟩) (knd := oik w) (k := q) (hv.is w) hv.scan (SetOf_keep S C.X.gh) (H g h₁ _ C.X)
theorem next_state_spec (kf : KF K) (gh : Keep g h) (B : Base w K mg mb g) (hroom : A.depth < recursionLimit) (I : DfaAt w g d dx T Df F O D)
  (H : ∀ g' h' t' v, Ext RO g h g' h' → OV (D.next q c) v → R (.ok (.ret v)) ⟨h', gs, dr, t', os⟩) :
  codeAny (model P w) A (.call (.ref 205) ⟨[.ref d, .int q tq, .str (ch c) tc], []⟩) R ⟨h, gs, dr, t, os⟩ := by
 refine exE2 I.inst fun td n I₀ => ?_
 obtain ⟨kvs, hT, hA⟩ := I.tab
 refine enter RO [] .nil (fun _ m => absurd m List.not_mem_nil) (binds := [("self", .ref d), ("src", .int q tq), ("label", .str (ch c) tc)]) gh B.X B.lim kf.mNext.fn hroom (fun pm => .of_eq (by with_unfolding_all rfl)) (by rfl) (fun h₁ L t₁ C _ => ?_) (by rfl) (by rfl) (by rfl) (by decide +kernel)
 have p1 := kf.pg "transitions" (by decide)
 have p2 := kf.pg "defaults" (by decide)
 refine wpAny_execs_cons (assignL (get2_ (knd := IK w) (attrN C (by rfl) (attr_own C.X.gh B.X I₀ p1.1 kf.hh p1.2 (by rfl) rfl fun t₂ =>
  (exI2 T _ (anI4 rfl I.sys.1 ((hT.keep C.X.gh).mapOf) (nameL C (by rfl) (dict0 C fun e g₂ h₂ C₂ x₂ he hn => (exI3 h₂ _ q (anI4 rfl (intKind_is P w q tq) ((hT.keep (x₂.gg.trans C₂.X.gh)).mapOf) (fun t₃ => ?_)))))))))))
 have zh1 : ∃ a l, (valueAt kvs q).getD (.ref e) = .ref a ∧ (a == sysModules) = false ∧ ArcsAt w g₂ a l ∧ l.lookup c = D.next q c := by
  rcases hA.at q with zc | ⟨h1, h2⟩
  ·(refine exE2 zc fun l a zr1 => anE4 zr1 fun h1 h2 h3 h4 => ?_; clear zc zr1)
   exact (exI2 a l (anI4 (by rw [h2]; rfl) h4 (h3.keeps x₂.gg) (by simp [Dfa.next, h1])))
  ·refine (exI2 e ([]) (anI4 (by rw [h2]; rfl) ?_ ⟨[], ⟨_, #[], 0, he, ⟨rfl, rfl, rfl⟩, rfl, fun _ z => by simp at z, .nil, .nil⟩, .nil⟩ (by simp [Dfa.next, h1])))
   exact B.newSys C.X.gh hn
 refine exE2 zh1 fun tv l zr2 => anE4 zr2 fun htv hsv ha hl => ?_
 clear zh1 zr2
 rw [htv]
 refine storeL C₂ fun h₃ t₄ C₃ _ => ?_
 obtain ⟨ks, hd, hk⟩ := ha
 have hd₃ := (hd.keep C₃.X.gh).mapOf
 have hf₃ := ((I.dfl.keep x₂.gg).keep C₃.X.gh).mapOf
 refine wpAny_execs_cons (wpAny_Return_some (get2_ (knd := SK w) (nameL C₃ (by rfl) (exI2 tv _ (anI4 rfl hsv hd₃ (nameL C₃ (by rfl) (get2_ (knd := IK w) (attrN C₃ (by rfl) ?_))))))))
 refine attr_own C₃.X.gh (B.keeps x₂.gg).X (I₀.keeps x₂.gg) p2.1 kf.hh p2.2 (by rfl) rfl fun t₅ => (exI2 Df _ (anI4 rfl I.sys.2 hf₃ (nameL C₃ (by rfl) (constN ?_))))
 refine (exI3 h₃ _ q (anI4 rfl (intKind_is P w q tq) hf₃ (fun t₆ => (exI3 h₃ _ (ch c) (anI4 rfl (strKind_is P w _ _) hd₃ (fun t₇ => ?_))))))
 show R (.ok (.ret ((valueAt ks (ch c)).getD .none))) _
 refine H g₂ h₃ t₇ _ C₃.X ?_
 rw [← hl]
 rcases hk.at c with zc | ⟨h1, h2⟩
 ·(refine exE2 zc fun i t zr2 => anE2 zr2 fun h1 h2 => ?_; clear zc zr2)
  rw [h1, h2]; exact .int
 ·rw [h1, h2]; exact .none
theorem accept_spec (kf : KF K) (gh : Keep g h) (B : Base w K mg mb g) (hroom : A.depth + 1 < recursionLimit) (hh : A.handled = none) (I : DfaAt w g d dx T Df F O D) (nz : D.NoZero) {l : List Nat} {tl : Tok}
  (H : ∀ g' h' t', Ext RO g h g' h' → R (.ok (.ret (.bool (D.acc l)))) ⟨h', gs, dr, t', os⟩) :
  codeAny (model P w) A (.call (.ref 135) ⟨[.ref d, .str (st l) tl], []⟩) R ⟨h, gs, dr, t, os⟩ := by
 refine exE2 I.inst fun td n I₀ => ?_
 refine enter RO [] .nil (fun _ m => absurd m List.not_mem_nil) (binds := [("self", .ref d), ("string", .str (st l) tl), ("debug", .bool false)]) gh B.X B.lim kf.mAccept.fn (Nat.lt_of_succ_lt hroom) (fun pm => ?_) (by rfl) (fun h₁ L t₁ C _ => ?_) (by rfl) (by rfl) (by rfl) (by decide +kernel)
 ·(refine exE2 kf.dAccept fun o n zr3 => anE2 zr3 fun ho hd => ?_; clear zr3)
  exact .of_defaults rfl (gh _ _ (B.X _ _ ho)) hd (by with_unfolding_all rfl) (by with_unfolding_all rfl)
 refine wpAny_execs_cons (assignL (meth0_ C B.X (by rfl) I₀ kf.mStart (by rfl) (start_spec kf C.X.gh B hroom I fun g₂ h₂ t₂ tv x₂ => ?_)))
 refine storeL (C.ro x₂) fun h₃ t₃ C₃ _ => ?_
 refine wpAny_execs_cons (wpAny_For (nameL C₃ (by rfl) (forStr hh C₃ fun it h₄ fe St C₄ F => ?_)))
 have I₂ := I.keeps x₂.gg
 have B₂ := B.keeps x₂.gg
 have fin : ∀ g₉ h₉ m₉ t₉ r vr E, Cur RO g h L g₉ h₉ m₉ [] → Keep g₂ g₉ → m₉ "self" = some (.ref d) → m₉ "state" = some vr → OV r vr → D.fin r = D.acc l →
    wpAny (model P w) (A.deeper (envOf "FSA.accept" (fnOfSt (clsSt 4 13)).scope L 135 (.ref 134))) (execs [(fnOfSt (clsSt 4 13)).body.getD 2 (.Pass default)] (envOf "FSA.accept" (fnOfSt (clsSt 4 13)).scope L 135 (.ref 134)))
     (fun fl s' => R (.ok (.ret (match fl with | .ret v => v | _ => .none))) s') E ⟨h₉, gs, dr, t₉, os⟩ := by
  intro g₉ h₉ m₉ t₉ r vr E C₉ k₉ hs₉ hq₉ ov e
  refine wpAny_execs_cons (wpAny_Return_some (meth1_ C₉ (B₂.keeps k₉).X hs₉ (I₀.keeps (x₂.gg.trans k₉)) kf.mIsFinal (by rfl) (nameL C₉ hq₉ ⟨(B₂.keeps k₉).X.keeps C₉.X.gh, is_final_spec kf C₉.X.gh (B₂.keeps k₉) hroom (I₂.keeps k₉) ov fun g₈ h₈ t₈ x₈ => ?_⟩)))
  show R (.ok (.ret (.bool (D.fin r)))) _
  rw [e]
  exact H g₈ h₈ t₈ (C₉.X.trans x₈ fun _ v => v.elim)
 refine forLoop (F.feed "label" _ (by rfl)) (fun i g' m ow => ow = [] ∧ m "self" = some (.ref d) ∧ ∃ q tq, D.run 0 (l.take i) = some q ∧ m "state" = some (.int q tq)) C₄ rfl F.new F.st (anI3 rfl rfl (exI2 0 tv ⟨(by simp [Dfa.run]), rfl⟩)) (fun i g₅ h₅ m₁ m₅ ow fe₅ t₅ hi k₅ hj hp C₅ => ?_) (fun g₅ h₅ m₅ ow t₅ k₅ hj C₅ => ?_)
 ·refine opaqueQ fun Qb Eb hQb _ => ?_
  (refine anE3 hj fun ze4 hs zr5 => exE2 zr5 fun q tq zr6 => anE2 zr6 fun hr hq => ?_; clear hj zr6 zr5; subst ze4)
  obtain ⟨v, ⟨c, u, hc, rfl⟩, rfl⟩ := hp
  refine wpAny_execs_cons (assignL (meth2_ C₅ (B₂.keeps k₅).X (oth hs) (I₀.keeps (x₂.gg.trans k₅)) kf.mNext (by rfl) (nameL C₅ (oth hq) (nameL C₅ sam ⟨(B₂.keeps k₅).X.keeps C₅.X.gh, ?_⟩))))
  refine next_state_spec kf C₅.X.gh (B₂.keeps k₅) hroom (I₂.keeps k₅) fun g₆ h₆ t₆ v x₆ hv => ?_
  refine storeL (C₅.ro x₆) fun h₇ t₇ C₇ _ => ?_
  have hrun : D.run 0 (l.take (i + 1)) = (D.next q c) := by
   have hc' : l[i]? = some c := by simpa [st] using hc
   rw [List.take_add_one, hc', Dfa.run_append, hr]
   show D.run q [c] = _
   cases e : D.next q c <;> simp [Dfa.run, e]
  refine wpAny_execs_cons (wpAny_If (isTrue_not (isTrue_plain (nameL C₇ sam ?_))))
  have hnz : D.next q c ≠ some 0 := nz q c
  generalize D.next q c = r at hv hrun hnz
  cases hv with
  | @int r tr =>
   refine truthy_int ?_
   have : (r != 0) = true := by simpa [bne_iff_ne] using fun z : r = 0 => hnz (by rw [z])
   rw [this]
   refine wpAny_execs_nil ?_
   refine wpAny_execs_nil (hQb _ _ ⟨g₆, h₇, _, [], t₇, rfl, x₆.gg, C₇, rfl, oth (oth hs), r, tr, hrun, sam⟩)
  | none =>
   refine truthy_none ?_
   refine wpAny_execs_cons (wpAny_Break ?_)
   have e : D.run 0 l = none := by
    rw [← List.take_append_drop (i + 1) l, Dfa.run_append, hrun]; rfl
   exact hQb _ _ (fin g₆ h₇ _ t₇ none .none _ (C₇.drop (List.nil_sublist _)) (k₅.trans x₆.gg) (oth (oth hs)) sam .none (by rw [Dfa.acc, e]))
 ·refine opaqueQ fun Qf Ef hQf _ => ?_
  (refine anE3 hj fun ze7 hs zr8 => exE2 zr8 fun q tq zr9 => anE2 zr9 fun hr hq => ?_; clear hj zr9 zr8; subst ze7)
  refine wpAny_execs_nil (hQf _ _ ?_)
  rw [show (st l).cps.size = l.length by simp [st], List.take_length] at hr
  exact fin g₅ h₅ m₅ t₅ (some q) _ _ C₅ k₅ hs hq .int (by rw [Dfa.acc, hr])
end
end
section
open PySem PySem.W PyProof.Rows
theorem Cur.updL {V : Addr → Prop} {g₀ h₀ : Heap} {L : Addr} {g h h' : Heap} {m m'} {l r : List Ent} {a : Addr} {Pr Pr' : Heap → Prop} (C : Cur V g₀ h₀ L g h m (l ++ (a, Pr) :: r))
  (k : ∀ b o, b ≠ a → b ≠ L → h.get? b = some o → h'.get? b = some o) (ns : h'.Ns L m') (hp : EntAt g h' (a, Pr')) : Cur V g₀ h₀ L g h' m' (l ++ (a, Pr') :: r) := by
 have ma : (a, Pr) ∈ l ++ (a, Pr) :: r := memR (mem0)
 have p : (l ++ (a, Pr) :: r).Perm ((a, Pr) :: (l ++ r)) := List.perm_middle
 have nd := (p.map (·.1)).nodup_iff.mp C.O.nd
 rw [List.map_cons, List.nodup_cons] at nd
 have live : ∀ b, h.get? b ≠ none → h'.get? b ≠ none := fun b e => by
  by_cases z : b = a
  ·rw [z]; exact hp.live
  ·by_cases z' : b = L
   ·rw [z']; exact Ns_some ns
   ·cases q : h.get? b with
    | none => exact absurd q e
    | some o => rw [k b o z z' q]; exact Option.some_ne_none _
 have memr : ∀ e, e ∈ l ++ (a, Pr') :: r → e = (a, Pr') ∨ e ∈ l ++ r := fun e me => by
  rcases List.mem_append.mp me with q | q
  ·exact .inr (memL q)
  ·rcases List.mem_cons.mp q with q | q
   ·exact .inl q
   ·exact .inr (memR q)
 have meml : ∀ e, e ∈ l ++ r → e ∈ l ++ (a, Pr) :: r := fun e me => p.mem_iff.mpr (.tail _ me)
 have new : h₀.get? L = none := C.new
 refine ⟨⟨C.X.gg, fun b o e => k b o (fun z => ?_) (fun z => ?_) (C.X.gh b o e), fun b o nv e => k b o (fun z => ?_) (fun z => ?_) (C.X.old b o nv e), fun b e => live b (C.X.live b e), C.X.fresh⟩, ⟨ns, C.F.off⟩, C.new, ⟨fun e me => ?_, ?_, fun e me => ?_⟩, fun e me => ?_, fun e me => ?_⟩
 ·have := C.O.off _ ma; rw [z] at e; rw [e] at this; cases this
 ·have := C.F.off; rw [z] at e; rw [e] at this; cases this
 ·rcases C.vis _ ma with q | q
  ·exact nv (z ▸ q)
  ·rw [z] at e; rw [e] at q; cases q
 ·rw [z, new] at e; cases e
 ·rcases memr e me with rfl | q
  ·exact hp
  ·obtain ⟨o, q', r'⟩ := C.O.at_ e (meml e q)
   refine ⟨o, k _ _ (fun z => ?_) (C.nL e (meml e q)) q', r'⟩
   exact nd.1 (by have t := List.mem_map_of_mem (f := fun x : Ent => x.1) q; rw [z] at t; exact t)
 ·rw [List.map_append, List.map_cons]
  have := C.O.nd
  rwa [List.map_append, List.map_cons] at this
 ·rcases memr e me with rfl | q
  ·exact C.O.off (a, Pr) ma
  ·exact C.O.off e (meml e q)
 ·rcases memr e me with rfl | q
  ·exact C.nL (a, Pr) ma
  ·exact C.nL e (meml e q)
 ·rcases memr e me with rfl | q
  ·exact C.vis (a, Pr) ma
  ·exact C.vis e (meml e q)
structure SetF (K : Frag) (C : Addr) (names : List Str) : Prop where
 sa : findIn K (.ref C) "__setattr__" = some (some (.builtin "object.__setattr__"))
 po : plainOver K C = true
 hd : hasDictIn K C = true
 tk : ∀ n ∈ names, takerIn K C n = some none
theorem putL_len (name : Str) (hsh : Int) (key v : Value) : ∀ es : List DictEntry, (putL name hsh key v es).length ≤ es.length + 1
 | [] => Nat.le_refl _
 | e :: r => by
  unfold putL
  split
  ·simp
  ·simpa using putL_len name hsh key v r
noncomputable def others (h : Heap) (a b : Addr) : List (Addr × Obj) := (List.range h.objs.size).filterMap fun c => if c = a ∨ c = b then none else (h.get? c).map fun o => (c, o)
theorem mem_others {h : Heap} {a b c : Addr} {o : Obj} : (c, o) ∈ others h a b ↔ h.get? c = some o ∧ c ≠ a ∧ c ≠ b := by
 unfold others
 rw [List.mem_filterMap]
 constructor
 ·rintro ⟨d, _, e⟩
  by_cases z : d = a ∨ d = b
  ·rw [if_pos z] at e; cases e
  ·rw [if_neg z] at e
   cases q : h.get? d with
   | none => rw [q] at e; cases e
   | some o' =>
    rw [q] at e
    cases e
    exact (anI3 q (fun t => z (.inl t)) (fun t => z (.inr t)))
 ·rintro ⟨e, na, nb⟩
  refine ⟨c, List.mem_range.mpr (Heap.lt_size e), ?_⟩
  rw [if_neg (fun z => z.elim na nb), e]; rfl
section
variable {w : World} {A : Around} {E : Value → Shared → Prop} {K : Frag} {g h : Heap} {gs : Array GenState} {dr : Drawn} {t : Tok} {os : OsState}
 {L : Addr} {g₀ h₀ : Heap} {V : Addr → Prop} {m : Str → Option Value}
theorem setA {x C dx : Addr} {es : List DictEntry} {n : Nat} {name : Str} {names : List Str} {v : Value} {l r : List Ent} {Q : Unit → Shared → Prop}
  (c : Cur V g₀ h₀ L g h m (l ++ exEnt dx (dictOf es n) :: r)) (X : K.In g) (hx : h.get? x = some (instObj C dx)) (S : SetF K C names) (hn : name ∈ names) (hl : (getL name es).isSome = true) (hz : Nat.ble (es.length + 1) 1000 = true)
  (H : ∀ h' t', Cur V g₀ h₀ L g h' m (l ++ exEnt dx (dictOf (putL name (PyData.keyHash w.params name) (.str name (t + 1)) v es) (putN name es n)) :: r) → (∀ b o, b ≠ dx → b ≠ L → h.get? b = some o → h'.get? b = some o) → Q () ⟨h', gs, dr, t', os⟩) :
  wpAny (model P w) A (setAttr (.ref x) name v) Q E ⟨h, gs, dr, t, os⟩ := by
 have md : exEnt dx (dictOf es n) ∈ l ++ exEnt dx (dictOf es n) :: r := memR (mem0)
 have hd : h.get? dx = some (dictOf es n) := c.get _ md
 have hdL : dx ≠ L := c.nL _ md
 have I : InstAt h x (instObj C dx) C (some (dictOf es n)) := ⟨hx, rfl, rfl, hd⟩
 have F : Fr ⟨#[], h.life⟩ L h m := ⟨c.F.ns, fun b o e => by simp [Heap.get?] at e, Nat.zero_le _⟩
 have N : News ⟨#[], h.life⟩ L h (others h dx L ++ (dx, dictOf es n) :: []) := by
  intro p hp
  rcases List.mem_append.mp hp with q | q
  ·refine anE3 (mem_others.mp q) fun e _ nb => ?_
   exact (anI3 e nb (by simp [Heap.get?]))
  ·rw [List.mem_singleton.mp q]; exact (anI3 hd hdL (by simp [Heap.get?]))
 refine set_plain (s := ⟨h, gs, dr, t, os⟩) (X.keeps c.X.gh) I S.sa (osa_dict (s := ⟨h, gs, dr, t + 1, os⟩) (pre := others h dx L) (post := []) F N (X.keeps c.X.gh) I rfl S.po (S.tk _ hn) S.hd (by show (lookIn name (dictOf es n)).isSome = true; rw [lookIn_dict]; exact hl)
  (fun p hp => (mem_others.mp hp).2.1) (fun p hp => absurd hp List.not_mem_nil) (putName_dict ..) rfl (Nat.le_trans (putL_len ..) (Nat.le_of_ble_eq_true hz)) fun h' F' N' => ?_)
 refine H h' _ (c.updL (fun b o nd nL e => (N' _ (memL (mem_others.mpr (anI3 e nd nL)))).1) F'.ns ?_) fun b o nd nL e => (N' _ (memL (mem_others.mpr (anI3 e nd nL)))).1
 have := (N' (dx, dictOf _ _) (memR (.head _))).1
 exact ⟨_, this, fun h'' _ e => e⟩
end
section
variable {w : World} {A : Around} {E : Value → Shared → Prop} {K : Frag} {mg mb : Str → Option Value} {g h : Heap} {gs : Array GenState} {dr : Drawn} {t : Tok} {os : OsState} {env : Env}
theorem nameG {x : Str} {pos : Pos} {v : Value} {Q : Value → Shared → Prop} (gh : Keep g h) (B : Base w K mg mb g) (e : nsIn K mainGlobals x = some (some v)) (H : Q v ⟨h, gs, dr, t, os⟩)
  (hg : env.globals = mainGlobals := by rfl) (hb : env.builtins = builtinsNs := by rfl) (hk : env.scope.kind = .function := by rfl) (hx : env.kindOf x = some .globalImplicit := by rfl) (hd : (x == ("__debug__" : Str)) = false := by decide) :
  wpAny (model P w) A (eval (.Name x pos) env) Q E ⟨h, gs, dr, t, os⟩ :=
 Calls.Name_function_global (s := ⟨h, gs, dr, t, os⟩) hk hx (Calls.loadGlobal_global (env := env) (hg ▸ B.g.keeps gh) (mg_of B.X B.g e) H) hd
theorem nameB {x : Str} {pos : Pos} {v : Value} {Q : Value → Shared → Prop} (gh : Keep g h) (B : Base w K mg mb g) (e : nsIn K mainGlobals x = some none) (hv : bootBuiltins x = some v) (hn : x ≠ "__name__") (H : Q v ⟨h, gs, dr, t, os⟩)
  (hg : env.globals = mainGlobals := by rfl) (hb : env.builtins = builtinsNs := by rfl) (hk : env.scope.kind = .function := by rfl) (hx : env.kindOf x = some .globalImplicit := by rfl) (hd : (x == ("__debug__" : Str)) = false := by decide) :
  wpAny (model P w) A (eval (.Name x pos) env) Q E ⟨h, gs, dr, t, os⟩ :=
 Calls.Name_function_global (s := ⟨h, gs, dr, t, os⟩) hk hx (Calls.loadGlobal_builtin (env := env) (hg ▸ B.g.keeps gh) (mg_none_of B.X B.g e) (hb ▸ B.b.keeps gh) ((B.bi x hn).trans hv) H) hd
theorem callT0 {x T : String} {p pos : Pos} {Q : Value → Shared → Prop} (gh : Keep g h) (B : Base w K mg mb g) (e : nsIn K mainGlobals x = some none) (hv : bootBuiltins x = some (.type T)) (hn : (x : Str) ≠ "__name__")
  (H : wpAny (model P w) A (call (.type T) []) Q E ⟨h, gs, dr, t, os⟩)
  (hg : env.globals = mainGlobals := by rfl) (hb : env.builtins = builtinsNs := by rfl) (hk : env.scope.kind = .function := by rfl) (hx : env.kindOf x = some .globalImplicit := by rfl) (hd : ((x : Str) == ("__debug__" : Str)) = false := by decide) :
  wpAny (model P w) A (eval (.Call (.Name x p) [] [] pos) env) Q E ⟨h, gs, dr, t, os⟩ :=
 wpAny_Call_NameR (nameB gh B e hv hn (PyProof.Rows.callWith_type0 H) hg hb hk hx hd)
end
end
section
open PySem PySem.W PyProof.Rows
theorem EntAt.ex {g h : Heap} {a : Addr} {o : Obj} {Pr : Heap → Prop} (e : h.get? a = some o) (f : ∀ h', h'.get? a = some o → Pr h') : EntAt g h (a, Pr) := ⟨o, e, fun h' _ e' => f h' e'⟩
theorem Own.re {g h : Heap} {ow ow' : List Ent} (O : Own g h ow) (p : (ow'.map (·.1)).Perm (ow.map (·.1))) (f : ∀ e ∈ ow', EntAt g h e) : Own g h ow' :=
 ⟨f, p.nodup_iff.mpr O.nd, fun e me => by
  obtain ⟨e', me', z⟩ := List.mem_map.mp (p.mem_iff.mp (List.mem_map_of_mem (f := fun x : Ent => x.1) me))
  rw [← z]; exact O.off e' me'⟩
structure MkF (K : Frag) (C : Addr) (qual : Str) (f cd : Addr) (st : Stmt) (names : List Str) : Prop where
 mks : makesIn K C = true
 ini : findIn K (.ref C) "__init__" = some (some (.ref f))
 ity : typeIn K (.ref f) = some (.type "function")
 fn : HasFn K f "__init__" qual (fnOfSt st) .none (.ref cd)
 kp : keepIn K (.ref C) = true
 set : SetF K C names
theorem Cur.exact {V : Addr → Prop} {g₀ h₀ : Heap} {L : Addr} {g h : Heap} {m} {l r : List Ent} {a : Addr} {Pr : Heap → Prop} {o : Obj} (C : Cur V g₀ h₀ L g h m (l ++ (a, Pr) :: r)) (e : h.get? a = some o) :
  Cur V g₀ h₀ L g h m (l ++ exEnt a o :: r) := C.updL (fun _ _ _ _ e => e) C.F.ns ⟨o, e, fun _ _ e => e⟩
theorem Cur.entry {V : Addr → Prop} {g₀ h₀ : Heap} {L : Addr} {g h : Heap} {m} {l r : List Ent} {a : Addr} {Pr Pr' : Heap → Prop} (C : Cur V g₀ h₀ L g h m (l ++ (a, Pr) :: r)) (e : EntAt g h (a, Pr')) :
  Cur V g₀ h₀ L g h m (l ++ (a, Pr') :: r) := C.updL (fun _ _ _ _ e => e) C.F.ns e
section
variable {w : World} {A : Around} {E : Value → Shared → Prop} {R : Result → Shared → Prop} {K : Frag} {mg mb : Str → Option Value} {g h : Heap} {gs : Array GenState} {dr : Drawn} {t : Tok} {os : OsState}
theorem mkObj {C : Addr} {qual : Str} {f cd : Addr} {st : Stmt} {names : List Str} {rest : List Value} (M : MkF K C qual f cd st names) (gh : Keep g h) (X : K.In g)
  (H : ∀ g₂ h₂ x dx, Ext RO g h g₂ h₂ → g₂.get? x = some (instObj C dx) → Own g₂ h₂ [exEnt dx (dictOf [] 0)] → h.get? dx = none → h.get? x = none →
   codeAny (model P w) (A.under (.builtin "type.__call__" ⟨.ref C :: rest, []⟩)) (.call (.ref f) ⟨.ref x :: rest, []⟩) (InitBack x R) ⟨h₂, gs, dr, t, os⟩) :
  codeAny (model P w) A (.call (.ref C) ⟨rest, []⟩) R ⟨h, gs, dr, t, os⟩ := by
 refine make_core (makes_of (X.keeps gh) M.mks) (looks_findIn (X.keeps gh) M.ini) (fun self => bind_fn (X.keeps gh) self M.ity) (.inl rfl) ?_
 have k₁ := Keep.push h emptyDict
 have k₂ := Keep.push (h.push emptyDict) (instObj C h.objs.size)
 have x₁ : Ext RO g h g (h.push emptyDict) := ⟨Keep.refl _, gh.trans k₁, fun b o _ e => k₁ b o e, live_of_keep k₁, fun b e n => absurd n e⟩
 have x₂ := Ext.grow x₁.gh k₂
 have sz : (h.push emptyDict).objs.size = h.objs.size + 1 := by rw [Heap.size_push]
 have hx : (grow g (h.push emptyDict) ((h.push emptyDict).push (instObj C h.objs.size))).get? (h.objs.size + 1) = some (instObj C h.objs.size) := by
  have := grow_push g (h := h.push emptyDict) (o := instObj C h.objs.size) rfl
  rwa [sz] at this
 have hnone : h.get? (h.objs.size + 1) = none := by
  cases q : h.get? (h.objs.size + 1) with
  | none => rfl
  | some o => exact absurd (Heap.lt_size q) (Nat.not_lt.mpr (Nat.le_succ _))
 refine H _ _ _ _ (x₁.trans x₂ fun _ v => v.elim) hx ⟨fun e me => ?_, ?_, fun e me => ?_⟩ (size_none h) hnone
 ·rw [List.mem_singleton.mp me]
  exact ⟨_, k₂ _ _ (Heap.get?_push_size h rfl), fun _ _ e => e⟩
 ·exact List.nodup_cons.mpr ⟨List.not_mem_nil, List.nodup_nil⟩
 ·rw [List.mem_singleton.mp me]
  show (grow _ _ _).get? h.objs.size = none
  cases q : (grow g (h.push emptyDict) ((h.push emptyDict).push (instObj C h.objs.size))).get? h.objs.size with
  | none => rfl
  | some o =>
   rcases (grow_get.mp q).2 with z | z
   ·cases q' : g.get? h.objs.size with
    | none => exact absurd q' z
    | some o' => exact absurd (gh _ _ q') (by rw [size_none]; exact fun z => by cases z)
   ·rw [Heap.get?_push_size h rfl] at z; cases z
section
variable {q : Str} {scope : Scope} {L a : Addr} {cd : Value} {g₀ h₀ : Heap} {V : Addr → Prop} {m : Str → Option Value} {ow : List Ent}
theorem dict0O {env : Env} {pos} {Q : Value → Shared → Prop} (C : Cur V g₀ h₀ L g h m ow)
  (H : ∀ d h', Cur V g₀ h₀ L g h' m (exEnt d (dictOf [] 0) :: ow) → h.get? d = none → Keep h h' → Q (.ref d) ⟨h', gs, dr, t, os⟩) : wpAny (model P w) A (eval (.Dict [] [] pos) env) Q E ⟨h, gs, dr, t, os⟩ :=
 wpAny_Dict_empty (s := ⟨h, gs, dr, t, os⟩) (H _ _ (C.alloc (o := dictOf [] 0) rfl fun _ _ e => e).1 (size_none h) (Keep.push h _))
end
noncomputable def nodeEs (w : World) (t : Nat → Tok) (n : Int) (tn : Tok) (ar : Addr) (fin : Bool) : List DictEntry := [
 ⟨PyData.keyHash w.params "n", .str "n" (t 0), .int n tn⟩,
 ⟨PyData.keyHash w.params "arcs", .str "arcs" (t 1), .ref ar⟩,
 ⟨PyData.keyHash w.params "final", .str "final" (t 2), .bool fin⟩]
noncomputable def NodeD (w : World) (dx : Addr) (n : Int) (ar : Addr) (fin : Bool) : Ent := (dx, fun h => ∃ t tn, h.get? dx = some (dictOf (nodeEs w t n tn ar fin) 3))
noncomputable def ArcsE (w : World) (a : Addr) (l : List (Nat × Int)) : Ent := (a, fun h => ArcsAt w h a l)
theorem DictOf_empty {KT} [DecidableEq KT] {knd : KeyKind P w KT} {h : Heap} {d : Addr} (e : h.get? d = some (dictOf [] 0)) : h.DictOf knd d [] :=
 ⟨_, #[], 0, e, ⟨rfl, rfl, rfl⟩, rfl, fun _ z => by simp at z, .nil, .nil⟩
structure KF2 (K : Frag) : Prop extends KF K where
 node : MkF K 271 "DMNode.__init__" 261 260 (clsSt 6 0) ["n", "arcs", "final"]
 dfa : MkF K 245 "DFA.__init__" 163 162 (clsSt 5 0) ["initial", "transitions", "defaults", "final_states", "outlabels"]
 gNode : nsIn K mainGlobals "DMNode" = some (some (.ref 271))
 gDfa : nsIn K mainGlobals "DFA" = some (some (.ref 245))
 bSet : nsIn K mainGlobals "set" = some none
theorem node_spec (kf : KF2 K) (gh : Keep g h) (B : Base w K mg mb g) (hroom : A.depth + 1 < recursionLimit) {c : Int} {tc : Tok}
  (H : ∀ g' h' t' x dx ar, Ext RO g h g' h' → g'.get? x = some (instObj 271 dx) → Own g' h' [NodeD w dx c ar false, ArcsE w ar []] → h.get? dx = none → h.get? ar = none → h.get? x = none → R (.ok (.ret (.ref x))) ⟨h', gs, dr, t', os⟩) :
  codeAny (model P w) A (.call (.ref 271) ⟨[.int c tc], []⟩) R ⟨h, gs, dr, t, os⟩ := by
 refine mkObj kf.node gh B.X fun g₂ h₂ x dx x₂ hx O hdx hxn => ?_
 refine enter (adr [exEnt dx (dictOf [] 0)]) _ O (fun e me => ⟨e, me, rfl⟩) (binds := [("self", .ref x), ("n", .int c tc)]) x₂.gh (B.keeps x₂.gg).X (B.keeps x₂.gg).lim kf.node.fn (by rw [depth_under_make]; exact hroom) (fun pm => .of_eq (by with_unfolding_all rfl)) (by rfl) (fun h₁ L t₁ C k₁ => ?_) (by rfl) (by rfl) (by rfl) (by decide +kernel)
 have B₂ := B.keeps x₂.gg
 have S := kf.node.set
 refine wpAny_execs_cons (plainObj_wpAny_Assign_Attribute (nameL C (by rfl) (nameL C (by rfl) ?_)))
 refine setA (l := []) (r := []) C B₂.X (C.X.gh _ _ hx) S (by decide) (by rfl) (by rfl) fun h₃ t₃ C₃ _ => ?_
 refine wpAny_execs_cons (plainObj_wpAny_Assign_Attribute (dict0O C₃ fun ar h₄ C₄ har _ => nameL C₄ (by rfl) ?_))
 refine setA (l := [_]) (r := []) C₄ B₂.X (C₄.X.gh _ _ hx) S (by decide) (by rfl) (by rfl) fun h₅ t₅ C₅ _ => ?_
 refine wpAny_execs_cons (plainObj_wpAny_Assign_Attribute (wpAny_Constant_bool (nameL C₅ (by rfl) ?_)))
 refine setA (l := [_]) (r := []) C₅ B₂.X (C₅.X.gh _ _ hx) S (by decide) (by rfl) (by rfl) fun h₆ t₆ C₆ _ => ?_
 refine wpAny_execs_nil ?_
 refine ⟨rfl, H g₂ h₆ t₆ x dx ar (x₂.trans C₆.X fun b ⟨e, me, z⟩ => .inr (by rw [← z, List.mem_singleton.mp me]; exact hdx)) hx (C₆.O.re (List.Perm.swap _ _ _) ?_) hdx ?_ hxn⟩
 ·have e1 := C₆.get _ (.tail _ (mem0))
  have e2 := C₆.get _ (mem0)
  refine fun e me => ?_
  rcases List.mem_cons.mp me with rfl | me
  ·exact .ex e1 fun h' e' => (exI2 (fun | 0 => _ | 1 => _ | _ => _) tc e')
  ·rw [List.mem_singleton.mp me]
   exact .ex e2 fun h' e' => ⟨[], DictOf_empty e', .nil⟩
 ·cases q : h.get? ar with
  | none => rfl
  | some o => exact absurd har (C₃.X.live ar (live_of_keep x₂.keep ar (by rw [q]; exact Option.some_ne_none _)))
theorem set0O {env : Env} {p pos} {L : Addr} {g₀ h₀ : Heap} {V : Addr → Prop} {m : Str → Option Value} {ow : List Ent} {Q : Value → Shared → Prop} (kf : KF2 K) (B : Base w K mg mb g) (C : Cur V g₀ h₀ L g h m ow)
  (H : ∀ d h' o, Cur V g₀ h₀ L g h' m (exEnt d o :: ow) → (∀ h'' : Heap, h''.get? d = some o → h''.SetOf (oik w) d (fun _ => false) 0) → h.get? d = none → Keep h h' → Q (.ref d) ⟨h', gs, dr, t, os⟩)
  (hg : env.globals = mainGlobals := by rfl) (hb : env.builtins = builtinsNs := by rfl) (hk : env.scope.kind = .function := by rfl) (hx : env.kindOf "set" = some .globalImplicit := by rfl) :
  wpAny (model P w) A (eval (.Call (.Name "set" p) [] [] pos) env) Q E ⟨h, gs, dr, t, os⟩ :=
 callT0 C.X.gh B kf.bSet (by decide +kernel) (by decide) (call_set_0 (s := ⟨h, gs, dr, t, os⟩) fun led => H _ _ _ (C.alloc (o := { cls := .type "set", dict := none, data := .set #[] 0 (.fresh 0 0 led) }) rfl fun _ _ e => e).1
  (fun h'' e => ⟨_, #[], 0, _, e, ⟨rfl, rfl, rfl⟩, rfl, fun _ z => (by simp at z), fun k => by simp, by decide, by rfl, rfl⟩) (size_none h) (Keep.push h _)) hg hb hk hx
theorem dfa_init (kf : KF2 K) (gh : Keep g h) (B : Base w K mg mb g) (hroom : A.depth + 1 < recursionLimit) {c : Int} {tc : Tok}
  (H : ∀ g' h' t' d dx T Df F O tk n, Ext RO g h g' h' → Inst g' d 245 dx (dfaEs w tk T Df F O) n → g'.DictOf (IK w) Df [] →
   Own g' h' [(T, fun h => h.DictOf (IK w) T []), (F, fun h => h.SetOf (oik w) F (fun _ => false) 0), (O, fun h => h.DictOf (IK w) O [])] → (∀ a ∈ [d, dx, T, Df, F, O], h.get? a = none) → R (.ok (.ret (.ref d))) ⟨h', gs, dr, t', os⟩) :
  codeAny (model P w) A (.call (.ref 245) ⟨[.int 0 tc], []⟩) R ⟨h, gs, dr, t, os⟩ := by
 refine mkObj kf.dfa gh B.X fun g₂ h₂ x dx x₂ hx O hdx hxn => ?_
 refine enter (adr [exEnt dx (dictOf [] 0)]) _ O (fun e me => ⟨e, me, rfl⟩) (binds := [("self", .ref x), ("initial", .int 0 tc)]) x₂.gh (B.keeps x₂.gg).X (B.keeps x₂.gg).lim kf.dfa.fn (by rw [depth_under_make]; exact hroom) (fun pm => .of_eq (by with_unfolding_all rfl)) (by rfl) (fun h₁ L t₁ C k₁ => ?_) (by rfl) (by rfl) (by rfl) (by decide +kernel)
 have B₂ := B.keeps x₂.gg
 have S := kf.dfa.set
 refine wpAny_execs_cons (plainObj_wpAny_Assign_Attribute (nameL C (by rfl) (nameL C (by rfl) ?_)))
 refine setA (l := []) (r := []) C B₂.X (C.X.gh _ _ hx) S (by decide) (by rfl) (by rfl) fun h₃ t₃ C₃ _ => ?_
 refine wpAny_execs_cons (plainObj_wpAny_Assign_Attribute (dict0O C₃ fun T h₄ C₄ hT _ => nameL C₄ (by rfl) ?_))
 refine setA (l := [_]) (r := []) C₄ B₂.X (C₄.X.gh _ _ hx) S (by decide) (by rfl) (by rfl) fun h₅ t₅ C₅ _ => ?_
 refine wpAny_execs_cons (plainObj_wpAny_Assign_Attribute (dict0O C₅ fun Df h₆ C₆ hDf _ => nameL C₆ (by rfl) ?_))
 refine setA (l := [_, _]) (r := []) C₆ B₂.X (C₆.X.gh _ _ hx) S (by decide) (by rfl) (by rfl) fun h₇ t₇ C₇ _ => ?_
 refine wpAny_execs_cons (plainObj_wpAny_Assign_Attribute (set0O kf B₂ C₇ fun F h₈ oF C₈ iF hF _ => nameL C₈ (by rfl) ?_))
 refine setA (l := [_, _, _]) (r := []) C₈ B₂.X (C₈.X.gh _ _ hx) S (by decide) (by rfl) (by rfl) fun h₉ t₉ C₉ _ => ?_
 refine wpAny_execs_cons (plainObj_wpAny_Assign_Attribute (dict0O C₉ fun U ha Ca hU _ => nameL Ca (by rfl) ?_))
 refine setA (l := [_, _, _, _]) (r := []) Ca B₂.X (Ca.X.gh _ _ hx) S (by decide) (by rfl) (by rfl) fun hb tb Cb _ => ?_
 refine wpAny_execs_nil ?_
 (refine Exists.elim (Cur.freeze (l := [_, _]) (r := [_, _]) Cb) fun g₃ zr1 => anE4 zr1 fun C₃' kg₃ eDf _ => ?_; clear zr1)
 (refine Exists.elim (Cur.freeze (l := [_, _, _]) (r := []) C₃') fun g₄ zr2 => anE4 zr2 fun C₄' kg₄ eDx _ => ?_; clear zr2)
 have old : ∀ b, h.get? b ≠ none → h₂.get? b ≠ none := fun b z => live_of_keep x₂.keep b z
 have nn : ∀ {a : Addr} {hh : Heap}, hh.get? a = none → (∀ b, h₂.get? b ≠ none → hh.get? b ≠ none) → h.get? a = none := fun {a hh} e lv => by
  cases q : h.get? a with
  | none => rfl
  | some o => exact absurd e (lv a (old a (by rw [q]; exact Option.some_ne_none _)))
 refine ⟨rfl, H g₄ hb tb x dx T Df F U (fun | 0 => _ | 1 => tc | 2 => _ | 3 => _ | 4 => _ | _ => _) _ (x₂.trans C₄'.X fun b ⟨e, me, z⟩ => .inr (by rw [← z, List.mem_singleton.mp me]; exact hdx)) ⟨(kg₃.trans kg₄) _ _ hx, eDx⟩ ((DictOf_empty eDf).keep kg₄) (C₄'.O.re ?_ ?_) ?_⟩
 ·exact (List.reverse_perm _).symm
 ·intro e me
  have e1 := C₄'.get _ (mem0)
  have e2 := C₄'.get _ (.tail _ (mem0))
  have e3 := C₄'.get _ (.tail _ (.tail _ (mem0)))
  rcases List.mem_cons.mp me with rfl | me
  ·exact .ex e3 fun h' e' => DictOf_empty e'
  rcases List.mem_cons.mp me with rfl | me
  ·exact .ex e2 fun h' e' => iF h' e'
  ·rw [List.mem_singleton.mp me]
   exact .ex e1 fun h' e' => DictOf_empty e'
 ·exact List.forall_mem_cons.mpr ⟨hxn, List.forall_mem_cons.mpr ⟨hdx, List.forall_mem_cons.mpr ⟨nn hT C₃.X.live, List.forall_mem_cons.mpr ⟨nn hDf C₅.X.live,
   List.forall_mem_cons.mpr ⟨nn hF C₇.X.live, List.forall_mem_cons.mpr ⟨nn hU C₉.X.live, fun _ m => absurd m List.not_mem_nil⟩⟩⟩⟩⟩⟩
end
end
section
open PySem PySem.W PyProof.Rows
section
variable {w : World} {KT : Type} [DecidableEq KT] {knd : KeyKind P w KT} {A : Around} {E : Value → Shared → Prop} {s : Shared}
theorem stored_new {kvs : List (KT × Value)} {k : KT} {v : Value} (h : valueAt kvs k = none) : stored kvs k v = kvs ++ [(k, v)] := by
 unfold stored
 rw [if_neg]
 intro q
 obtain ⟨kv, m, e⟩ := List.any_eq_true.mp q
 unfold valueAt at h
 rw [Option.map_eq_none_iff, List.find?_eq_none] at h
 exact h kv m e
end
section
variable {w : World} {KT : Type} [DecidableEq KT] {knd : KeyKind P w KT} {A : Around} {E : Value → Shared → Prop} {h : Heap} {gs : Array GenState} {dr : Drawn} {t : Tok} {os : OsState}
theorem setdefault_ {env : Env} {o e f : Expr} {apos pos : Pos} {Q : Value → Shared → Prop}
  (H : wpAny (model P w) A (eval o env) (fun ov s₁ => ∃ d, ov = .ref d ∧ (d == sysModules) = false ∧ (∃ kvs, s₁.heap.DictOf knd d kvs) ∧ wpAny (model P w) A (eval e env) (fun key s₂ =>
   wpAny (model P w) A (eval f env) (fun dflt s₃ => ∃ h₃ t₃ k kvs, s₃ = ⟨h₃, gs, dr, t₃, os⟩ ∧ knd.is k key = true ∧ h₃.DictOf knd d kvs ∧ kvs.length ≤ sizeLine ∧
    (∀ v, valueAt kvs k = some v → ∀ t', Q v ⟨h₃, gs, dr, t', os⟩) ∧
    (valueAt kvs k = none → ∀ h' t', h'.DictOf knd d (kvs ++ [(k, dflt)]) → Heap.SameBut d h₃ h' → Q dflt ⟨h', gs, dr, t', os⟩)) E s₂) E s₁) E ⟨h, gs, dr, t, os⟩)
  (hbase : attributeBase o "setdefault" env (eval o env) = eval o env := by with_unfolding_all rfl) (hline : (apos.endLine == pos.line) = true := by rfl)
  (htrees : backTo pos (starEach [e, f] env) = [(false, eval e env), (false, eval f env)] := by with_unfolding_all rfl) :
  wpAny (model P w) A (eval (.Call (.Attribute o "setdefault" apos) [e, f] [] pos) env) Q E ⟨h, gs, dr, t, os⟩ := by
 refine wpAny_Call_method2_late hbase hline htrees (wpAny_mono H (fun ov s₁ h₁ => ?_) fun _ _ x => x)
 (refine Exists.elim h₁ fun d zr4 => anE4 zr4 fun ze2 hd zo3 h₂ => ?_; clear h₁ zr4; subst ze2; obtain ⟨kvs, hm⟩ := zo3)
 refine ⟨"dict", "dict.setdefault", F.plainAttrs_dict, F.slot_dict_setdefault, F.type_dict_setdefault, hm.typeIs, hm.mapOf.noDict, ?_⟩
 refine method2_meetsIn F.slot_dict_setdefault F.entry_dict_setdefault (wpAny_mono h₂ (fun key s₂ h₃ => wpAny_mono h₃ (fun dflt s₃ h₄ => ?_) fun _ _ e => e) fun _ _ e => e)
 (refine exE4 h₄ fun h₃ t₃ k kvs zr6 => anE6 zr6 fun ze5 hkey hm hz c1 c2 => ?_; clear h₄ zr6; subst ze5)
 exact ⟨hm.typeIs, F.args_dict_setdefault_3 _ _ _, _, kt_meets_setdefault knd d hkey hd dflt, kvs, hm, hz, fun v hv => c1 v hv _, fun hn h' hm' hs' => c2 hn h' _ (stored_new hn ▸ hm') hs'⟩
end
theorem ArcsAre.stored {kvs l} (h : ArcsAre kvs l) (c : Nat) (i : Int) (t : Tok) : ArcsAre (stored kvs (ch c) (.int i t)) (putK l c i) := by
 have any : ∀ {kvs l}, ArcsAre kvs l → (kvs.any fun kv => decide (kv.1 = ch c)) = l.any fun kv => decide (kv.1 = c) := by
  intro kvs l h
  induction h with
  | nil => rfl
  | @cons c' i' t' kvs l _ ih =>
   rw [List.any_cons, List.any_cons, ih]
   congr 1
   by_cases e : c' = c
   ·subst e; simp
   ·have : ¬ ch c' = ch c := fun q => e (ch_inj q)
    simp [e, this]
 have mp : ∀ {kvs l}, ArcsAre kvs l → ArcsAre (kvs.map fun kv => if kv.1 = ch c then (kv.1, .int i t) else kv) (l.map fun kv => if kv.1 = c then (kv.1, i) else kv) := by
  intro kvs l h
  induction h with
  | nil => exact .nil
  | @cons c' i' t' kvs l _ ih =>
   rw [List.map_cons, List.map_cons]
   by_cases e : c' = c
   ·subst e
    rw [if_pos rfl, if_pos rfl]; exact .cons ih
   ·have : ¬ ch c' = ch c := fun q => e (ch_inj q)
    rw [if_neg this, if_neg e]; exact .cons ih
 have ap : ∀ {kvs l}, ArcsAre kvs l → ArcsAre (kvs ++ [(ch c, .int i t)]) (l ++ [(c, i)]) := by
  intro kvs l h
  induction h with
  | nil => exact .cons .nil
  | cons _ ih => exact .cons ih
 unfold PySem.stored putK
 rw [any h]
 split
 ·exact mp h
 ·exact ap h
theorem ArcsAre.length {kvs l} (h : ArcsAre kvs l) : kvs.length = l.length := by induction h <;> simp_all
noncomputable abbrev Tb := List (Int × Addr × List (Nat × Int))
noncomputable def plainOf (tb : Tb) : List (Int × List (Nat × Int)) := tb.map fun x => (x.1, x.2.2)
noncomputable def kvsOf (tb : Tb) : List (Int × Value) := tb.map fun x => (x.1, .ref x.2.1)
noncomputable def TabE (w : World) (T : Addr) (tb : Tb) : Ent := (T, fun h => h.DictOf (IK w) T (kvsOf tb))
noncomputable def InnE (w : World) (tb : Tb) : List Ent := tb.map fun x => ArcsE w x.2.1 x.2.2
structure KF3 (K : Frag) : Prop extends KF2 K where
 mAdd : Meth K 245 "add_transition" "DFA.add_transition" 177 176 (clsSt 5 2) .none
 mAddF : Meth K 245 "add_final_state" "DFA.add_final_state" 191 190 (clsSt 5 4) .none
section
variable {w : World} {A : Around} {E : Value → Shared → Prop} {R : Result → Shared → Prop} {K : Frag} {mg mb : Str → Option Value} {g h : Heap} {gs : Array GenState} {dr : Drawn} {t : Tok} {os : OsState}
theorem Cur.eq {V : Addr → Prop} {g₀ h₀ : Heap} {L : Addr} {g h : Heap} {m} {ow ow' : List Ent} (C : Cur V g₀ h₀ L g h m ow) (e : ow = ow') : Cur V g₀ h₀ L g h m ow' := e ▸ C
theorem tbAt (tb : Tb) (q : Int) : (∃ pre a l post, tb = pre ++ (q, a, l) :: post ∧ (∀ x ∈ pre, x.1 ≠ q) ∧ valueAt (kvsOf tb) q = some (.ref a)) ∨ ((∀ x ∈ tb, x.1 ≠ q) ∧ valueAt (kvsOf tb) q = none) := by
 induction tb with
 | nil => exact .inr ⟨(fun _ m => absurd m List.not_mem_nil), rfl⟩
 | cons x tb ih =>
  obtain ⟨q', a, l⟩ := x
  by_cases e : q' = q
  ·subst e
   exact .inl (exI4 ([]) a l tb (anI3 rfl (fun _ m => absurd m List.not_mem_nil) (by simp [valueAt, kvsOf])))
  ·have hv : valueAt (kvsOf ((q', a, l) :: tb)) q = valueAt (kvsOf tb) q := by simp [valueAt, kvsOf, e]
   rw [hv]
   rcases ih with zc | ⟨hp, hv'⟩
   ·(refine exE4 zc fun pre a' l' post zr2 => anE3 zr2 fun ze1 hp hv' => ?_; clear zc zr2; subst ze1)
    refine .inl (exI4 ((q', a, l) :: pre) a' l' post (anI3 rfl (fun x m => ?_) hv'))
    rcases List.mem_cons.mp m with rfl | m
    ·exact e
    ·exact hp x m
   ·refine .inr ⟨fun x m => ?_, hv'⟩
    rcases List.mem_cons.mp m with rfl | m
    ·exact e
    ·exact hp x m
theorem add_transition_spec (kf : KF3 K) (gh : Keep g h) (B : Base w K mg mb g) (hroom : A.depth < recursionLimit) {d dx T F U Df : Addr} {tk : Nat → Tok} {n : Nat} (I : Inst g d 245 dx (dfaEs w tk T Df F U) n) {tb : Tb} {q i : Int} {c : Nat} {tq ti tc : Tok}
  (hs : (T == sysModules) = false) (O : Own g h (TabE w T tb :: InnE w tb)) (hz : tb.length ≤ 1000) (hz' : ∀ x ∈ tb, x.2.2.length ≤ 1000) (nd : (tb.map (·.1)).Nodup)
  (H : ∀ g' h' t' tb', Ext (adr (TabE w T tb :: InnE w tb)) g h g' h' → Own g' h' (TabE w T tb' :: InnE w tb') → (∀ e ∈ TabE w T tb' :: InnE w tb', adr (TabE w T tb :: InnE w tb) e.1 ∨ h.get? e.1 = none) → plainOf tb' = addTr (plainOf tb) q c i → R (.ok (.ret .none)) ⟨h', gs, dr, t', os⟩) :
  codeAny (model P w) A (.call (.ref 177) ⟨[.ref d, .int q tq, .str (ch c) tc, .int i ti], []⟩) R ⟨h, gs, dr, t, os⟩ := by
 refine enter (adr (TabE w T tb :: InnE w tb)) _ O (fun e me => ⟨e, me, rfl⟩) (binds := [("self", .ref d), ("src", .int q tq), ("label", .str (ch c) tc), ("dest", .int i ti)]) gh B.X B.lim kf.mAdd.fn hroom (fun pm => .of_eq (by with_unfolding_all rfl)) (by rfl) (fun h₁ L t₁ C k₁ => ?_) (by rfl) (by rfl) (by rfl) (by decide +kernel)
 have p := kf.pg "transitions" (by decide)
 refine wpAny_execs_cons (wpAny_Assign_Subscript (nameL C (by rfl) (setdefault_ (knd := IK w) (attrN C (by rfl) (attr_own C.X.gh B.X I p.1 kf.hh p.2 (by rfl) rfl fun t₂ => ?_)))))
 have hT : h₁.DictOf (IK w) T (kvsOf tb) := C.get _ (mem0)
 refine ⟨T, (anI4 rfl hs ⟨_, hT⟩ (nameL C (by rfl) (dict0O C fun a h₃ C₃ ha k₃ => ?_)))⟩
 refine (exI4 h₃ _ q (kvsOf tb) (anI6 rfl (intKind_is P w q tq) (C₃.get _ (.tail _ (mem0))) ?_ (fun v hv t' => ?_) (fun hv h₄ t₄ hT₄ hs₄ => ?_)))
 ·rw [kvsOf, List.length_map]; exact Nat.le_trans hz (by decide)
 ·refine nameL C₃ (by rfl) ?_
  rcases tbAt tb q with zc | ⟨_, hv'⟩
  ·(refine exE4 zc fun pre a' l post zr4 => anE3 zr4 fun ze3 hpre hv' => ?_; clear zc zr4; subst ze3)
   rw [hv'] at hv
   cases hv
   have ei : ∀ l', InnE w (pre ++ (q, a', l') :: post) = InnE w pre ++ ArcsE w a' l' :: InnE w post := fun l' => by simp [InnE]
   have C₃' := C₃.eq (ow' := (exEnt a (dictOf [] 0) :: TabE w T (pre ++ (q, a', l) :: post) :: InnE w pre) ++ ArcsE w a' l :: InnE w post) (by rw [ei l]; rfl)
   obtain ⟨ks, hd, hk⟩ : ArcsAt w h₃ a' l := C₃'.get _ (memR (mem0))
   refine wpAny_setItem_pairs (s := ⟨h₃, gs, dr, t', os⟩) (knd := SK w) (strKind_is P w _ _) hd (fun h₅ hd₅ hs₅ => ?_) (by rw [hk.length]; exact Nat.le_trans (hz' (q, a', l) (memR (mem0))) (by decide))
   have C₅ := C₃'.upd (Pr' := fun h => ArcsAt w h a' (putK l c i)) hs₅ (by
    obtain ⟨o, es, ep, ho, r⟩ := hd₅
    exact .ex ho fun h'' e => ⟨_, ⟨o, es, ep, e, r⟩, hk.stored c i ti⟩)
   have ek : kvsOf (pre ++ (q, a', putK l c i) :: post) = kvsOf (pre ++ (q, a', l) :: post) := by simp [kvsOf]
   have hadr : ∀ e ∈ TabE w T (pre ++ (q, a', putK l c i) :: post) :: InnE w (pre ++ (q, a', putK l c i) :: post), adr (TabE w T (pre ++ (q, a', l) :: post) :: InnE w (pre ++ (q, a', l) :: post)) e.1 := by
    intro e me
    rcases List.mem_cons.mp me with rfl | me
    ·exact ⟨_, mem0, rfl⟩
    ·rw [ei] at me
     rcases List.mem_append.mp me with me | me
     ·exact ⟨e, List.mem_cons_of_mem _ (by rw [ei]; exact memL me), rfl⟩
     ·rcases List.mem_cons.mp me with rfl | me
      ·exact ⟨ArcsE w a' l, List.mem_cons_of_mem _ (by rw [ei]; exact memR (mem0)), rfl⟩
      ·exact ⟨e, List.mem_cons_of_mem _ (by rw [ei]; exact memR (.tail _ me)), rfl⟩
   refine wpAny_execs_nil (H g h₅ _ (pre ++ (q, a', putK l c i) :: post) C₅.X ?_ (fun e me => .inl (hadr e me)) ?_)
   ·have C₆ := C₅.drop (ow' := TabE w T (pre ++ (q, a', l) :: post) :: InnE w pre ++ ArcsE w a' (putK l c i) :: InnE w post) (List.sublist_cons_self _ _)
    have e : TabE w T (pre ++ (q, a', putK l c i) :: post) :: InnE w (pre ++ (q, a', putK l c i) :: post) = TabE w T (pre ++ (q, a', l) :: post) :: InnE w pre ++ ArcsE w a' (putK l c i) :: InnE w post := by
     rw [ei]; unfold TabE; rw [ek]; rfl
    rw [e]
    exact C₆.O
   ·rw [List.map_append, List.map_cons] at nd
    have nd' := (List.nodup_append.mp nd)
    have hpost : ∀ x ∈ post, x.1 ≠ q := fun x m z => (List.nodup_cons.mp nd'.2.1).1 (by have t := List.mem_map_of_mem (f := fun x : Int × Addr × List (Nat × Int) => x.1) m; rw [z] at t; exact t)
    have mp : ∀ l : Tb, (∀ x ∈ l, x.1 ≠ q) → (plainOf l).map (fun x => if x.1 = q then (x.1, putK x.2 c i) else x) = plainOf l := fun l hl => by
     unfold plainOf
     rw [List.map_map]
     exact List.map_congr_left fun x m => by simp [hl x m]
    unfold addTr
    rw [if_pos (by simp [plainOf])]
    have e₂ : plainOf (pre ++ (q, a', l) :: post) = plainOf pre ++ (q, l) :: plainOf post := by simp [plainOf]
    have e₃ : plainOf (pre ++ (q, a', putK l c i) :: post) = plainOf pre ++ (q, putK l c i) :: plainOf post := by simp [plainOf]
    rw [e₂, e₃, List.map_append, List.map_cons, mp pre hpre, mp post hpost, if_pos rfl]
  ·rw [hv'] at hv; cases hv
 ·have C₄ := C₃.upd (l := [exEnt a (dictOf [] 0)]) (Pr' := fun h => h.DictOf (IK w) T (kvsOf tb ++ [(q, .ref a)])) hs₄ (by
    obtain ⟨o, es, ep, ho, r⟩ := hT₄
    exact .ex ho fun h'' e => ⟨o, es, ep, e, r⟩)
  refine nameL C₄ (by rfl) ?_
  have hd : h₄.DictOf (SK w) a [] := DictOf_empty (C₄.get _ (mem0))
  refine wpAny_setItem_pairs (s := ⟨h₄, gs, dr, t₄, os⟩) (knd := SK w) (strKind_is P w _ _) hd (fun h₅ hd₅ hs₅ => ?_) (by decide)
  have C₅ := C₄.upd (l := []) (Pr' := fun h => ArcsAt w h a [(c, i)]) hs₅ (by
    obtain ⟨o, es, ep, ho, r⟩ := hd₅
    exact .ex ho fun h'' e => ⟨_, ⟨o, es, ep, e, r⟩, .cons .nil⟩)
  have ek : kvsOf (tb ++ [(q, a, [(c, i)])]) = kvsOf tb ++ [(q, .ref a)] := by simp [kvsOf]
  have ei : InnE w (tb ++ [(q, a, [(c, i)])]) = InnE w tb ++ [ArcsE w a [(c, i)]] := by simp [InnE]
  have C₆ := C₅.perm (ow' := TabE w T (tb ++ [(q, a, [(c, i)])]) :: InnE w (tb ++ [(q, a, [(c, i)])])) (by
   rw [ei]; unfold TabE; rw [ek]
   show ((a, fun h => ArcsAt w h a [(c, i)]) :: _ :: InnE w tb).Perm (_ :: (InnE w tb ++ [ArcsE w a [(c, i)]]))
   exact (List.Perm.swap _ _ _).trans (List.Perm.cons _ (List.perm_append_comm (l₁ := [ArcsE w a [(c, i)]]))))
  refine wpAny_execs_nil (H g h₅ _ (tb ++ [(q, a, [(c, i)])]) C₆.X C₆.O (fun e me => ?_) ?_)
  ·rcases List.mem_cons.mp me with rfl | me
   ·exact .inl ⟨_, mem0, rfl⟩
   ·rw [ei] at me
    rcases List.mem_append.mp me with me | me
    ·exact .inl ⟨e, List.mem_cons_of_mem _ me, rfl⟩
    ·rw [List.mem_singleton.mp me]
     refine .inr ?_
     cases z : h.get? a with
     | none => exact z
     | some o => exact absurd (k₁ _ _ z) (by rw [ha]; exact fun z => by cases z)
  ·rcases tbAt tb q with zc | ⟨hno, _⟩
   ·(refine exE4 zc fun _ _ _ _ zr5 => anE3 zr5 fun _ _ hv' => ?_; clear zc zr5)
    rw [hv'] at hv; cases hv
   ·unfold addTr
    have hb : (plainOf tb).any (fun x => decide (x.1 = q)) = false := by
     rw [List.any_eq_false]
     intro x m
     obtain ⟨y, my, rfl⟩ := List.mem_map.mp m
     simpa using hno y my
    rw [if_neg (by rw [hb]; exact Bool.false_ne_true)]
    simp [plainOf]
theorem bmeth1_ {env : Env} {o e : Expr} {name : Str} {apos pos : Pos} {Q : Value → Shared → Prop} {s : Shared}
  (H : wpAny (model P w) A (eval o env) (fun ov s₁ => ∃ T id, PlainAttrs T ∧ Slot T name id ∧ typeOf (.builtin id) = pure (.type "method_descriptor") ∧ s₁.TypeIs ov T ∧ (∀ a, ov = .ref a → ∃ ob, s₁.heap.get? a = some ob ∧ ob.dict = none) ∧
   wpAny (model P w) A (eval e env) (fun v s₂ => wpAny (model P w) A (call (.builtin id) [ov, v]) Q E s₂) E s₁) E s)
  (hbase : attributeBase o name env (eval o env) = eval o env := by with_unfolding_all rfl) (hline : (apos.endLine == pos.line) = true := by rfl)
  (htrees : backTo pos (starEach [e] env) = [(false, eval e env)] := by with_unfolding_all rfl) :
  wpAny (model P w) A (eval (.Call (.Attribute o name apos) [e] [] pos) env) Q E s := by
 refine wpAny_Call_method1_late hbase hline htrees (wpAny_mono H (fun ov s₁ h₁ => ?_) fun _ _ x => x)
 (refine exE2 h₁ fun T id zr7 => anE6 zr7 fun a b c d e f => ?_; clear h₁ zr7)
 exact ⟨T, id, a, b, c, d, e, Calls.callWith_builtin rfl (Calls.evalArgs_plain (Calls.spliced_cons (wpAny_mono f (fun _ _ h₁ => Calls.spliced_nil h₁) fun _ _ e => e)))⟩
noncomputable def FinE (w : World) (F : Addr) (S : Option Int → Bool) (n : Nat) : Ent := (F, fun h => h.SetOf (oik w) F S n)
theorem add_final_spec (kf : KF3 K) (gh : Keep g h) (B : Base w K mg mb g) (hroom : A.depth < recursionLimit) {d dx T F U Df : Addr} {tk : Nat → Tok} {n : Nat} (I : Inst g d 245 dx (dfaEs w tk T Df F U) n) {S : Option Int → Bool} {k : Nat} {q : Int} {tq : Tok}
  (O : Own g h [FinE w F S k]) (hz : k ≤ 1000)
  (H : ∀ h' t', Ext (adr [FinE w F S k]) g h g h' → Own g h' [FinE w F (fun k' => S k' || decide (k' = some q)) (if S (some q) then k else k + 1)] → R (.ok (.ret .none)) ⟨h', gs, dr, t', os⟩) :
  codeAny (model P w) A (.call (.ref 191) ⟨[.ref d, .int q tq], []⟩) R ⟨h, gs, dr, t, os⟩ := by
 refine enter (adr [FinE w F S k]) _ O (fun e me => ⟨e, me, rfl⟩) (binds := [("self", .ref d), ("state", .int q tq)]) gh B.X B.lim kf.mAddF.fn hroom (fun pm => .of_eq (by with_unfolding_all rfl)) (by rfl) (fun h₁ L t₁ C k₁ => ?_) (by rfl) (by rfl) (by rfl) (by decide +kernel)
 have p := kf.pg "final_states" (by decide)
 refine wpAny_execs_cons (wpAny_Expr (bmeth1_ (attrN C (by rfl) (attr_own C.X.gh B.X I p.1 kf.hh p.2 (by rfl) rfl fun t₂ => ?_))))
 have hS : h₁.SetOf (oik w) F S k := C.get _ (mem0)
 refine (exI2 ("set") ("set.add") (anI6 PySem.F.plainAttrs_set PySem.F.slot_set_add PySem.F.type_set_add hS.typeIs hS.noDict (nameL C (by rfl) ?_)))
 refine call_set_add (s := ⟨h₁, gs, dr, t₂, os⟩) (knd := oik w) (oik_int w q tq) rfl hS (by show k + 1 < 4096; omega) fun h' hs' hS' => ?_
 have C₃ := C.upd (l := []) (Pr' := fun h => h.SetOf (oik w) F (fun k' => S k' || decide (k' = some q)) (if S (some q) then k else k + 1)) hs' (by
  obtain ⟨o, es, ep, tt, ho, r⟩ := hS'
  exact .ex ho fun h'' e => ⟨o, es, ep, tt, e, r⟩)
 exact wpAny_execs_nil (H h' _ C₃.X C₃.O)
end
end
section
open PySem PySem.W PyProof.Rows
structure VK (w : World) (T : Type) [DecidableEq T] where
 is : Heap → T → Value → Prop
 hash : T → Int
 draws : T → Nat
 need : Nat
 deep : Nat
 inj : ∀ {h v x y}, is h x v → is h y v → x = y
 keeps : ∀ {h h' k v}, (∀ b o items n, o.data = .seq items n → h.get? b = some o → h'.get? b = some o) → is h k v → is h' k v
 pyHash : ∀ {A : Around} {E : Value → Shared → Prop} {s : Shared} {k v} {Q : Int → Shared → Prop}, A.units + need < cLine → is s.heap k v → Q (hash k) { s with toks := s.toks + draws k } → wpAny (model P w) A (PySem.pyHash v) Q E s
 eqBool : ∀ {A : Around} {E : Value → Shared → Prop} {s : Shared} {x y u v} {Q : Bool → Shared → Prop}, A.units + need < cLine → is s.heap x u → is s.heap y v → Q (decide (x = y)) s → wpAny (model P w) A (PySem.eqBool u v) Q E s
 quiet : ∀ {A : Around} {E : Value → Shared → Prop} {s : Shared} {k v n} {Q : Bool → Shared → Prop}, deep ≤ n → is s.heap k v → Q true s → wpAny (model P w) A (eqIsQuiet n v) Q E s
noncomputable def bh (b : Bool) : Int := if rawHash (if b then 1 else 0) == -1 then -2 else rawHash (if b then 1 else 0)
noncomputable def VK.of {w : World} {T : Type} [DecidableEq T] (knd : PySem.KeyKind P w T) : VK w T where
 is := fun _ k v => knd.is k v = true
 hash := knd.hash
 draws := fun _ => 1
 need := 0
 deep := 0
 inj := fun a b => knd.inj _ _ _ a b
 keeps := fun _ x => x
 pyHash := fun _ hk h => knd.pyHash hk h
 eqBool := fun _ hx hy h => knd.eqBool hx hy h
 quiet := fun _ hk h => by rw [eqIsQuiet_byValue _ (knd.byValue _ _ hk)]; exact wpAny_pure h
section
variable {w : World} {A : Around} {E : Value → Shared → Prop} {s : Shared}
theorem pyHash_bool {b : Bool} {Q : Int → Shared → Prop} (h : Q (bh b) { s with toks := s.toks + 1 }) : wpAny (model P w) A (pyHash (.bool b)) Q E s := by
 have hr := rawHash_range (if b then 1 else 0)
 unfold pyHash
 have hv : [Value.bool b].any Value.onHeap = false := rfl
 refine wpAny_bind ?_
 rw [cRoomFor, if_neg (by rw [hv]; exact Bool.false_ne_true)]; refine wpAny_pure ?_
 refine wpAny_bind (wpAny_specialOf (T := "bool") rfl PySem.F.slot_bool_hash.lookup ?_)
 show wpAny _ _ (if (some (Value.builtin "int.__hash__") == some Value.none) = true then _ else _) Q E s
 rw [if_neg (by rw [beq_builtin_none]; exact Bool.false_ne_true)]
 refine wpAny_bind (wpAny_specialOf (T := "bool") rfl PySem.F.slot_bool_hash.lookup ?_)
 show wpAny _ _ (callSpecialIfBoundUnlessNone? (.bool b) "__hash__" _ >>= _) Q E s
 refine wpAny_bind (wpAny_callSpecialIfBoundUnlessNone?_slot (T := "bool") rfl PySem.F.slot_bool_hash
  (wpAny_call_entry (T := "bool") PySem.F.slot_bool_hash rfl entry_int_hash
   (show wpAny _ _ (do ret (← mkInt (rawHash (if b then 1 else 0)))) _ _ s from wpAny_ret_mkInt ?_) (args_int_hash _)))
 show wpAny _ _ (if (decide (-(2 : Int) ^ 63 ≤ rawHash (if b then 1 else 0)) && decide (rawHash (if b then 1 else 0) < 2 ^ 63)) = true then _ else _) Q E _
 rw [if_pos (by rw [decide_eq_true hr.1, decide_eq_true hr.2]; rfl)]
 exact wpAny_pure h
end
noncomputable def VK.bool (w : World) : VK w Bool where
 is := fun _ k v => v = .bool k
 hash := bh
 draws := fun _ => 1
 need := 0
 deep := 0
 inj := fun a b => by rw [a] at b; injection b
 keeps := fun _ x => x
 pyHash := fun _ hk h => by subst hk; exact pyHash_bool h
 eqBool := fun {A E s x y u v Q} _ hx hy h => by
  subst hx hy
  exact SeqAt.EqAt.bool_bool x y P w E Q (by rw [show (x == y) = decide (x = y) by cases x <;> cases y <;> rfl]; exact h)
 quiet := fun _ hk h => by subst hk; rw [eqIsQuiet_byValue _ rfl]; exact wpAny_pure h
section
variable {w : World} {A : Around} {E : Value → Shared → Prop} {s : Shared}
inductive HashesAre (w : World) (H : Heap) (A : Around) : List Value → List (Int × Nat) → Prop
 | nil : HashesAre w H A [] []
 | cons {v n k vs l} : (∀ (E : Value → Shared → Prop) (s : Shared) (Q : Int → Shared → Prop), s.heap = H → Q n { s with toks := s.toks + k } → wpAny (model P w) A (pyHash v) Q E s) → HashesAre w H A vs l → HashesAre w H A (v :: vs) ((n, k) :: l)
theorem hash_tuple {a : Addr} {o : Obj} {items : Array Value} {n : Nat} {l : List (Int × Nat)} {Q : Int → Shared → Prop} (hu : A.units < cLine) (ho : s.heap.get? a = some o) (hc : o.cls = .type "tuple") (hd : o.data = .seq items n)
  (hs : HashesAre w s.heap A.in1 items.toList l) (h : Q (reduceHash (Builtin.Tuple.tupleHashOf (l.map (·.1)))) { s with toks := s.toks + ((l.map (·.2)).sum + 1) }) : wpAny (model P w) A (pyHash (.ref a)) Q E s := by
 have hT : s.TypeIs (.ref a) "tuple" := ⟨o, ho, hc⟩
 unfold pyHash
 refine wpAny_bind (wpAny_cRoomFor_or (.inr hu) ?_)
 refine wpAny_bind (wpAny_specialOf hT PySem.F.slot_tuple_hash.lookup ?_)
 show wpAny _ _ (if (some (Value.builtin "tuple.__hash__") == some Value.none) = true then _ else _) Q E s
 rw [if_neg (by rw [beq_builtin_none]; exact Bool.false_ne_true)]
 refine wpAny_bind (wpAny_specialOf hT PySem.F.slot_tuple_hash.lookup ?_)
 show wpAny _ _ (callSpecialIfBoundUnlessNone? (.ref a) "__hash__" _ >>= _) Q E s
 refine wpAny_bind (wpAny_callSpecialIfBoundUnlessNone?_slot hT PySem.F.slot_tuple_hash (wpAny_call_entry PySem.F.slot_tuple_hash hT PySem.F.entry_tuple_hash ?_ (PySem.F.args_tuple_hash_1 _)))
 show wpAny _ _ (Builtin.Tuple.tupleItemsOf (.ref a) >>= _) _ _ s
 refine wpAny_bind (wpAny_tupleItemsOf ho hd ?_)
 refine wpAny_bind ?_
 rw [← Array.forIn_toList]
 refine wpAny_forIn_list _
  (fun rest (b : Array Int) s' => ∃ done left, l = done ++ left ∧ HashesAre w s.heap A.in1 rest left ∧ b.toList = done.map (·.1) ∧ s' = { s with toks := s.toks + (done.map (·.2)).sum })
  _ ?_ ?_ _ _ (exI2 ([]) l (anI4 rfl hs rfl rfl))
 ·intro x rest b s' zI
  (refine exE2 zI fun done left zr3 => anE4 zr3 fun ze1 hl hb ze2 => ?_; clear zI zr3; subst ze1; subst ze2)
  cases hl with
  | @cons _ n k _ l' h1 hl' =>
   refine wpAny_bind (h1 _ _ _ rfl ?_)
   first
    | exact wpAny_pure ⟨done ++ [(n, k)], l', by simp, hl', by simp [hb], by simp [Nat.add_assoc]⟩
    | exact wpAny_bind (wpAny_pure (wpAny_pure ⟨done ++ [(n, k)], l', by simp, hl', by simp [hb], by simp [Nat.add_assoc]⟩))
 ·intro b s' zI
  (refine exE2 zI fun done left zr6 => anE4 zr6 fun ze4 hl hb ze5 => ?_; clear zI zr6; subst ze4; subst ze5)
  cases hl
  rw [List.append_nil] at h
  show wpAny _ _ (retInt (Builtin.Tuple.tupleHashOf b.toList)) _ _ _
  rw [hb]
  refine wpAny_ret_mkInt ?_
  show wpAny _ _ (if (decide (-(2 : Int) ^ 63 ≤ Builtin.Tuple.tupleHashOf (done.map (·.1))) && decide (Builtin.Tuple.tupleHashOf (done.map (·.1)) < 2 ^ 63)) = true then _ else _) Q E _
  unfold reduceHash at h
  by_cases hr : (decide (-(2 : Int) ^ 63 ≤ Builtin.Tuple.tupleHashOf (done.map (·.1))) && decide (Builtin.Tuple.tupleHashOf (done.map (·.1)) < 2 ^ 63)) = true
  ·rw [if_pos hr]
   rw [if_pos hr] at h
   exact wpAny_pure (by simpa [Nat.add_assoc] using h)
  ·rw [if_neg hr]
   rw [if_neg hr] at h
   exact wpAny_bind (wpAny_rule (wpAny_pure (by simpa [Nat.add_assoc] using h)))
inductive EqsAre (w : World) (H : Heap) (A : Around) : List Value → List Value → Bool → Prop
 | nil : EqsAre w H A [] [] true
 | left {v vs} : EqsAre w H A (v :: vs) [] false
 | right {v vs} : EqsAre w H A [] (v :: vs) false
 | cons {v u vs us e r} : (∀ (E : Value → Shared → Prop) (s : Shared) (Q : Bool → Shared → Prop), s.heap = H → Q e s → wpAny (model P w) A (eqBool v u) Q E s) → EqsAre w H A vs us r → EqsAre w H A (v :: vs) (u :: us) (e && r)
theorem eq_tuple_tree {a b : Addr} {oa ob : Obj} {xs ys : Array Value} {n n' : Nat} {r : Bool} {Pq : PySem.Fin → Shared → Prop} (hoa : s.heap.get? a = some oa) (hca : oa.cls = .type "tuple") (hda : oa.data = .seq xs n)
  (hob : s.heap.get? b = some ob) (hcb : ob.cls = .type "tuple") (hdb : ob.data = .seq ys n') (he : EqsAre w s.heap A xs.toList ys.toList r) (h : Pq (.done (.ret (.bool r))) s) :
  wpAny (model P w) A (Builtin.«tuple.__eq__» ⟨[.ref a, .ref b], []⟩) Pq E s := by
 have hTb : s.TypeIs (.ref b) "tuple" := ⟨ob, hob, hcb⟩
 show wpAny _ _ (isInstance (.ref b) (.type "tuple") >>= _) _ _ s
 refine wpAny_bind (wpAny_isInstance hTb isSubtype_tuple_tuple ?_)
 rw [if_neg (show ¬ ((!true) = true) from Bool.false_ne_true)]
 refine wpAny_bind (wpAny_tupleItemsOf hoa hda ?_)
 refine wpAny_bind (wpAny_tupleItemsOf hob hdb ?_)
 refine wpAny_bind ?_
 refine wpAny_forIn_list _
  (fun rest q s' => q.1 = none ∧ s' = s ∧ ∃ xs' ys' r', rest = List.zip xs' ys' ∧ EqsAre w s.heap A xs' ys' r' ∧ r' = r ∧ (xs'.length == ys'.length) = (xs.size == ys.size))
  _ ?_ ?_ _ _ (anI3 rfl rfl (exI3 xs.toList ys.toList r (anI4 rfl he rfl (by simp))))
 ·rintro ⟨u, v⟩ rest q s' zI
  (refine anE3 zI fun hr ze7 zr9 => exE3 zr9 fun xs' ys' r' zr10 => anE4 zr10 fun hz hx' ze8 hlen => ?_; clear zI zr10 zr9; subst ze7; subst ze8)
  cases hx' with
  | nil => simp at hz
  | left => simp at hz
  | right => simp at hz
  | @cons v' u' vs us e r'' h1 h2 =>
   simp only [List.zip_cons_cons, List.cons.injEq, Prod.mk.injEq] at hz
   obtain ⟨⟨rfl, rfl⟩, rfl⟩ := hz
   refine wpAny_bind (h1 _ _ _ rfl ?_)
   cases e with
   | true =>
    rw [if_neg (show ¬ ((!true) = true) from Bool.false_ne_true)]
    exact wpAny_pure ⟨rfl, rfl, vs, us, r'', rfl, h2, by simp, by simpa using hlen⟩
   | false =>
    rw [if_pos (show (!false) = true from rfl)]
    exact wpAny_bind (wpAny_pure (wpAny_pure (wpAny_pure h)))
 ·rintro ⟨r1, r2⟩ s' zI
  (refine anE3 zI fun hr ze11 zr13 => exE3 zr13 fun xs' ys' r' zr14 => anE4 zr14 fun hz hx' ze12 hlen => ?_; clear zI zr14 zr13; subst ze11; subst ze12)
  simp only at hr
  subst hr
  refine wpAny_pure ?_
  have hfin : (xs.size == ys.size) = r' := by
   rw [← hlen]
   cases hx' with
   | nil => simp
   | left => simp
   | right => simp
   | cons _ _ => simp at hz
  show Pq (.done (.ret (.bool (xs.size == ys.size)))) s'
  rw [hfin]; exact h
theorem eq_tuple {a b : Addr} {oa ob : Obj} {xs ys : Array Value} {n n' : Nat} {r : Bool} {Q : Bool → Shared → Prop} (hu : A.units < cLine) (hoa : s.heap.get? a = some oa) (hca : oa.cls = .type "tuple") (hda : oa.data = .seq xs n)
  (hob : s.heap.get? b = some ob) (hcb : ob.cls = .type "tuple") (hdb : ob.data = .seq ys n') (hsame : a = b → r = true) (he : EqsAre w s.heap A.in1 xs.toList ys.toList r) (h : Q r s) :
  wpAny (model P w) A (eqBool (.ref a) (.ref b)) Q E s := by
 unfold eqBool
 try with_reducible refine wpAny_holding ?_
 show wpAny _ _ (if (Value.ref a == Value.ref b) = true then _ else _) Q E s
 by_cases hab : (Value.ref a == Value.ref b) = true
 ·rw [if_pos hab]
  have e : a = b := by have := eq_of_beq hab; injection this
  exact wpAny_bind (wpAny_rule (wpAny_pure (by rw [hsame e] at h; exact h)))
 ·rw [if_neg hab]
  exact wpAny_bind (wpAny_richCompare_same_room (op := .Eq) (T := "tuple") ⟨oa, hoa, hca⟩ ⟨ob, hob, hcb⟩ PySem.F.slot_tuple_eq
   (wpAny_call_entry PySem.F.slot_tuple_eq ⟨oa, hoa, hca⟩ PySem.F.entry_tuple_eq (eq_tuple_tree hoa hca hda hob hcb hdb he ⟨_, rfl, (fun e => nomatch e), wpAny_truthy_bool h⟩) (PySem.F.args_tuple_eq_2 _ _)) hu)
theorem quiet_tuple {a : Addr} {o : Obj} {items : Array Value} {n k : Nat} {Q : Bool → Shared → Prop} (ho : s.heap.get? a = some o) (hc : o.cls = .type "tuple") (hd : o.data = .seq items n)
  (hi : ∀ v ∈ items.toList, ∀ (E : Value → Shared → Prop) (s' : Shared) (Q : Bool → Shared → Prop), s'.heap = s.heap → Q true s' → wpAny (model P w) A (eqIsQuiet k v) Q E s') (h : Q true s) : wpAny (model P w) A (eqIsQuiet (k + 1) (.ref a)) Q E s := by
 have hT : s.TypeIs (.ref a) "tuple" := ⟨o, ho, hc⟩
 unfold eqIsQuiet
 refine wpAny_bind (wpAny_specialOf hT PySem.F.slot_tuple_eq.lookup ?_)
 show wpAny _ _ (isInstance (.ref a) (.type "tuple") >>= _) _ _ s
 refine wpAny_bind (wpAny_isInstance hT isSubtype_tuple_tuple ?_)
 rw [if_neg (show ¬ ((!true) = true) from Bool.false_ne_true)]
 refine wpAny_bind (wpAny_seqItems ho hd ?_)
 refine wpAny_bind ?_
 show wpAny _ _ (forIn items _ _) _ _ s
 rw [← Array.forIn_toList]
 refine wpAny_forIn_list _ (fun rest r s' => r.1 = none ∧ s' = s ∧ ∀ v ∈ rest, v ∈ items.toList) _ ?_ ?_ _ _ (anI3 rfl rfl (fun _ m => m))
 ·rintro v rest r s' ⟨hr, rfl, hall⟩
  refine wpAny_bind (hi v (hall v mem0) _ _ _ rfl ?_)
  rw [if_neg (show ¬ ((!true) = true) from Bool.false_ne_true)]
  exact wpAny_pure ⟨rfl, rfl, fun u hu' => hall u (.tail _ hu')⟩
 ·rintro ⟨r1, r2⟩ s' zI
  (refine anE3 zI fun hr ze15 _ => ?_; clear zI; subst ze15)
  simp only at hr
  subst hr
  exact wpAny_pure h
end
noncomputable def TupIs (h : Heap) (v : Value) (items : List Value) : Prop := ∃ a o n, v = .ref a ∧ h.get? a = some o ∧ o.cls = .type "tuple" ∧ o.data = .seq items.toArray n
theorem TupIs.inj {h : Heap} {v : Value} {xs ys : List Value} (x : TupIs h v xs) (y : TupIs h v ys) : xs = ys := by
 obtain ⟨a, o, n, rfl, ho, _, hd⟩ := x
 obtain ⟨a', o', n', e, ho', _, hd'⟩ := y
 cases e
 rw [ho] at ho'; cases ho'
 rw [hd] at hd'
 injection hd' with h1 _
 exact List.toArray_inj h1
theorem TupIs.keeps {h h' : Heap} {v : Value} {xs : List Value} (k : ∀ b o items n, o.data = .seq items n → h.get? b = some o → h'.get? b = some o) (x : TupIs h v xs) : TupIs h' v xs :=
 by obtain ⟨a, o, n, e, ho, hc, hd⟩ := x; exact ⟨a, o, n, e, k _ _ _ _ hd ho, hc, hd⟩
section
variable {w : World}
noncomputable def VK.pair {T U : Type} [DecidableEq T] [DecidableEq U] (p : VK w T) (q : VK w U) : VK w (T × U) where
 is := fun h k v => ∃ x y, TupIs h v [x, y] ∧ p.is h k.1 x ∧ q.is h k.2 y
 hash := fun k => reduceHash (Builtin.Tuple.tupleHashOf [p.hash k.1, q.hash k.2])
 draws := fun k => p.draws k.1 + (q.draws k.2 + 0) + 1
 need := max p.need q.need + 1
 deep := max p.deep q.deep + 1
 inj := fun {h v x y} a b => by
  (refine exE2 a fun x1 x2 zr16 => anE3 zr16 fun t1 a1 a2 => ?_; clear a zr16)
  (refine exE2 b fun y1 y2 zr17 => anE3 zr17 fun t2 b1 b2 => ?_; clear b zr17)
  have := t1.inj t2
  simp only [List.cons.injEq, and_true] at this
  obtain ⟨rfl, rfl⟩ := this
  exact Prod.ext (p.inj a1 b1) (q.inj a2 b2)
 keeps := fun k zz => by obtain ⟨x, y, t, a, b⟩ := zz; exact ⟨x, y, t.keeps k, p.keeps k a, q.keeps k b⟩
 pyHash := fun {A E s k v Q} hu zz0 h => by
  obtain ⟨x, y, t, a, b⟩ := zz0
  obtain ⟨ad, o, n, rfl, ho, hc, hd⟩ := t
  have hu' : A.in1.units = A.units + 1 := rfl
  refine hash_tuple (l := [(p.hash k.1, p.draws k.1), (q.hash k.2, q.draws k.2)]) (by omega) ho hc hd ?_ h
  exact .cons (fun E s' Q e h => p.pyHash (by omega) (e ▸ a) h) (.cons (fun E s' Q e h => q.pyHash (by omega) (e ▸ b) h) .nil)
 eqBool := fun {A E s x y u v Q} hu zz0 zz1 h => by
  obtain ⟨x1, x2, t1, a1, a2⟩ := zz0
  obtain ⟨y1, y2, t2, b1, b2⟩ := zz1
  have same : u = v → x = y := fun e => by
   subst e
   have := t1.inj t2
   simp only [List.cons.injEq, and_true] at this
   obtain ⟨rfl, rfl⟩ := this
   exact Prod.ext (p.inj a1 b1) (q.inj a2 b2)
  obtain ⟨ad, o, n, rfl, ho, hc, hd⟩ := t1
  obtain ⟨ad', o', n', rfl, ho', hc', hd'⟩ := t2
  have hu' : A.in1.units = A.units + 1 := rfl
  refine eq_tuple (r := decide (x.1 = y.1) && (decide (x.2 = y.2) && true)) (by omega) ho hc hd ho' hc' hd' (fun e => ?_) ?_ ?_
  ·have := same (by rw [e]); subst this; simp
  ·exact .cons (fun E s' Q e h => p.eqBool (by omega) (e ▸ a1) (e ▸ b1) h) (.cons (fun E s' Q e h => q.eqBool (by omega) (e ▸ a2) (e ▸ b2) h) .nil)
  ·have : (decide (x.1 = y.1) && (decide (x.2 = y.2) && true)) = decide (x = y) := by
    rw [Bool.and_true, ← Bool.decide_and]; exact decide_eq_decide.mpr Prod.ext_iff.symm
   rw [this]; exact h
 quiet := fun {A E s k v n Q} hn zz0 h => by
  obtain ⟨x, y, t, a, b⟩ := zz0
  obtain ⟨ad, o, n', rfl, ho, hc, hd⟩ := t
  obtain ⟨n, rfl⟩ : ∃ m, n = m + 1 := ⟨n - 1, by omega⟩
  refine quiet_tuple ho hc hd (fun v hv E s' Q e h => ?_) h
  rcases List.mem_cons.mp hv with rfl | hv
  ·exact p.quiet (by omega) (e ▸ a) h
  ·rw [List.mem_singleton.mp hv]; exact q.quiet (by omega) (e ▸ b) h
inductive AllIs {T : Type} [DecidableEq T] (p : VK w T) (h : Heap) : List T → List Value → Prop
 | nil : AllIs p h [] []
 | cons {k v ks vs} : p.is h k v → AllIs p h ks vs → AllIs p h (k :: ks) (v :: vs)
theorem AllIs.inj {T : Type} [DecidableEq T] {p : VK w T} {h : Heap} {x y : List T} {vs : List Value} (a : AllIs p h x vs) (b : AllIs p h y vs) : x = y := by
 induction a generalizing y with
 | nil => cases b; rfl
 | cons h1 _ ih => cases b with | cons h2 t2 => rw [p.inj h1 h2, ih t2]
theorem AllIs.keeps {T : Type} [DecidableEq T] {p : VK w T} {h h' : Heap} (k : ∀ b o items n, o.data = .seq items n → h.get? b = some o → h'.get? b = some o) {x : List T} {vs : List Value} (a : AllIs p h x vs) : AllIs p h' x vs := by
 induction a with
 | nil => exact .nil
 | cons h1 _ ih => exact .cons (p.keeps k h1) ih
theorem AllIs.hashes {T : Type} [DecidableEq T] {p : VK w T} {h : Heap} {A : Around} (hu : A.units + p.need < cLine) {x : List T} {vs : List Value} (a : AllIs p h x vs) : HashesAre w h A vs (x.map fun k => (p.hash k, p.draws k)) := by
 induction a with
 | nil => exact .nil
 | cons h1 _ ih => exact .cons (fun E s' Q e h => p.pyHash hu (e ▸ h1) h) ih
theorem AllIs.eqs {T : Type} [DecidableEq T] {p : VK w T} {h : Heap} {A : Around} (hu : A.units + p.need < cLine) {x y : List T} {vs us : List Value} (a : AllIs p h x vs) (b : AllIs p h y us) : EqsAre w h A vs us (decide (x = y)) := by
 induction a generalizing y us with
 | nil => cases b with
  | nil => exact .nil
  | cons _ _ => exact .right
 | @cons k v ks vs h1 _ ih => cases b with
  | nil => exact .left
  | @cons k' u ks' us h2 t2 =>
   have : decide (k :: ks = k' :: ks') = (decide (k = k') && decide (ks = ks')) := by rw [← Bool.decide_and]; exact decide_eq_decide.mpr List.cons_eq_cons
   rw [this]
   exact .cons (fun E s' Q e h => p.eqBool hu (e ▸ h1) (e ▸ h2) h) (ih t2)
theorem AllIs.mem {T : Type} [DecidableEq T] {p : VK w T} {h : Heap} {x : List T} {vs : List Value} (a : AllIs p h x vs) : ∀ v ∈ vs, ∃ k, p.is h k v := by
 induction a with
 | nil => exact fun _ m => absurd m List.not_mem_nil
 | @cons k v ks vs h1 _ ih =>
  intro u m
  rcases List.mem_cons.mp m with rfl | m
  ·exact ⟨k, h1⟩
  ·exact ih u m
noncomputable def VK.list {T : Type} [DecidableEq T] (p : VK w T) : VK w (List T) where
 is := fun h k v => ∃ vs, TupIs h v vs ∧ AllIs p h k vs
 hash := fun k => reduceHash (Builtin.Tuple.tupleHashOf ((k.map fun k => (p.hash k, p.draws k)).map (·.1)))
 draws := fun k => ((k.map fun k => (p.hash k, p.draws k)).map (·.2)).sum + 1
 need := p.need + 1
 deep := p.deep + 1
 inj := fun {h v x y} zz0 zz1 => by
  obtain ⟨vs, t1, a⟩ := zz0
  obtain ⟨us, t2, b⟩ := zz1
  obtain rfl := t1.inj t2
  exact a.inj b
 keeps := fun k zz => by obtain ⟨vs, t, a⟩ := zz; exact ⟨vs, t.keeps k, a.keeps k⟩
 pyHash := fun {A E s k v Q} hu zz0 h => by
  obtain ⟨vs, t, a⟩ := zz0
  obtain ⟨ad, o, n, rfl, ho, hc, hd⟩ := t
  have hu' : A.in1.units = A.units + 1 := rfl
  exact hash_tuple (by omega) ho hc hd (a.hashes (by omega)) h
 eqBool := fun {A E s x y u v Q} hu zz0 zz1 h => by
  obtain ⟨vs, t1, a⟩ := zz0
  obtain ⟨us, t2, b⟩ := zz1
  have same : u = v → x = y := fun e => by
   subst e
   obtain rfl := t1.inj t2
   exact a.inj b
  obtain ⟨ad, o, n, rfl, ho, hc, hd⟩ := t1
  obtain ⟨ad', o', n', rfl, ho', hc', hd'⟩ := t2
  have hu' : A.in1.units = A.units + 1 := rfl
  exact eq_tuple (by omega) ho hc hd ho' hc' hd' (fun e => decide_eq_true (same (by rw [e]))) (a.eqs (by omega) b) h
 quiet := fun {A E s k v n Q} hn zz0 h => by
  obtain ⟨vs, t, a⟩ := zz0
  obtain ⟨ad, o, n', rfl, ho, hc, hd⟩ := t
  obtain ⟨n, rfl⟩ : ∃ m, n = m + 1 := ⟨n - 1, by omega⟩
  refine quiet_tuple ho hc hd (fun v hv E s' Q e h => ?_) h
  obtain ⟨k', hk'⟩ := a.mem v hv
  exact p.quiet (by omega) (e ▸ hk') h
noncomputable def VK.heapKind {T : Type} [DecidableEq T] (p : VK w T) (hd : p.deep ≤ 8) : HeapKind P w T where
 is := fun h k a => p.is h k (.ref a)
 hash := p.hash
 draws := p.draws
 room := fun A => A.units + p.need < cLine
 inj := fun x y => p.inj x y
 keeps := fun {h h' k a d o es ep} x ho hda hs => p.keeps (fun b o' items n hd e => by
  rw [hs.2 b]
  ·exact e
  ·rintro rfl
   rw [ho] at e
   cases e
   rw [hda] at hd; cases hd) x
 pyHash := fun hu hk h => p.pyHash hu hk h
 eqBool := fun hu hx hy h => p.eqBool hu hx hy h
 quiet := fun hk h => p.quiet hd hk h
end
end
section
open PySem PySem.W PyProof.Rows
theorem range_getD {n i : Nat} (h : i < n) : (List.toArray (List.range n)).getD i 0 = i := by simp [Array.getD, h]
theorem asc_same {cmp : Nat → Nat → (Bool → Shared → Prop) → Shared → Prop} {Good : Shared → Prop} {n : Nat} (hc : ∀ i C s, i + 1 < n → Good s → (∀ s', Good s' → C false s') → cmp (i + 1) i C s) :
  ∀ (f m : Nat) (s : Shared) (G : Nat → Shared → Prop), 1 ≤ m → m + f = n → Good s → (∀ s', Good s' → G n s') → (kas_asc (List.toArray (List.range n)) f m).kasWp cmp G s
 | 0, m, s, G, _, e, hs, hG => by
  have : m = n := by lia
  subst this; exact hG s hs
 | f + 1, m, s, G, h1, e, hs, hG => by
  show cmp _ _ _ s
  obtain ⟨i, rfl⟩ : ∃ i, m = i + 1 := ⟨m - 1, by lia⟩
  rw [range_getD (by lia), Nat.add_sub_cancel, range_getD (by lia)]
  refine hc i _ s (by lia) hs fun s' hs' => ?_
  exact asc_same hc f (i + 1 + 1) s' G (by lia) (by lia) hs' hG
theorem sort_same {cmp : Nat → Nat → (Bool → Shared → Prop) → Shared → Prop} {Good : Shared → Prop} {n : Nat} {s : Shared} {G : Array Nat → Shared → Prop} (h2 : 2 ≤ n) (hc : ∀ i C s, i + 1 < n → Good s → (∀ s', Good s' → C false s') → cmp (i + 1) i C s) (hs : Good s)
  (hG : ∀ s', Good s' → G (List.toArray (List.range n)) s') : (kas_sort n).kasWp cmp G s := by
 unfold kas_sort
 rw [KasT.kasWp_bind]
 unfold kas_count
 rw [KasT.kasWp_bind]
 refine asc_same hc (n - 1) 1 s _ (Nat.le_refl _) (by lia) hs fun s' hs' => ?_
 rw [if_pos (by simp)]
 show ((if n < n then _ else _ : KasT (Array Nat)).kasWp cmp G s')
 rw [if_neg (Nat.lt_irrefl _)]
 exact hG s' hs'
section
variable {w : World} {A : Around} {E : Value → Shared → Prop} {h : Heap} {gs : Array GenState} {dr : Drawn} {t : Tok} {os : OsState} {L : Addr} {m : Str → Option Value}
theorem sort_short {a : Addr} {vs : List Value} {n : Nat} {Pq : PySem.Fin → Shared → Prop} (ho : h.get? a = some (seqObj "list" vs.toArray n)) (hn : vs.length < 2)
  (H : ∀ h' e, (∀ b o, b ≠ a → h.get? b = some o → h'.get? b = some o) → h'.get? a = some (seqObj "list" vs.toArray e) → Pq (.done (.ret .none)) ⟨h', gs, dr, t, os⟩) :
  wpAny (model P w) A (Builtin.«list.sort» ⟨[.ref a], []⟩) Pq E ⟨h, gs, dr, t, os⟩ := by
 have ha : a < h.objs.size := Heap.lt_size ho
 rw [list_sort_plain]
 refine wpAny_bind (listItems_at (s := ⟨h, gs, dr, t, os⟩) ho rfl ?_)
 refine wpAny_bind (listUpdate_at (s := ⟨h, gs, dr, t, os⟩) ho rfl ?_ (by rw [List.size_toArray, sizeLine_eq]; lia) (Nat.zero_le _))
 obtain ⟨e1, ho1⟩ : ∃ e1, (h.update a (Obj.mapSeq fun _ => (#[] : Array Value))).get? a = some (seqObj "list" #[] e1) := ⟨_, get?_update_seq ho (fun _ => #[])⟩
 refine wpAny_bind (seqEpoch_at ho1 rfl ?_)
 refine wpAny_bind (wpAny_newTuple ?_ (by show vs.length ≤ _; rw [sizeLine_eq]; lia))
 refine wpAny_bind (wpAny_newList ?_ (Nat.zero_le _))
 refine wpAny_holding ?_
 have k1 : ∀ b o, b ≠ a → h.get? b = some o → (((h.update a (Obj.mapSeq fun _ => (#[] : Array Value))).push (seqObj "tuple" vs.toArray 0)).push (seqObj "list" #[] 0)).get? b = some o := fun b o nb e =>
  Heap.get?_push_of_some _ (Heap.get?_push_of_some _ (((Heap.SameBut.update h a _).2 b nb).trans e))
 have ho6 : (((h.update a (Obj.mapSeq fun _ => (#[] : Array Value))).push (seqObj "tuple" vs.toArray 0)).push (seqObj "list" #[] 0)).get? a = some (seqObj "list" #[] e1) := Heap.get?_push_of_some _ (Heap.get?_push_of_some _ ho1)
 show wpAny (model P w) A _ Pq E ⟨((h.update a (Obj.mapSeq fun _ => (#[] : Array Value))).push (seqObj "tuple" vs.toArray 0)).push (seqObj "list" #[] 0), gs, dr, t, os⟩
 dsimp only
 have h2 : vs.toArray.size < 2 := by rw [List.size_toArray]; exact hn
 rw [if_pos h2, if_pos h2]
 refine wpAny_bind (wpAny_pure ?_)
 rw [StateT.run_pure]
 refine wpAny_bind (wpAny_pure ?_)
 dsimp only
 have hout : ((arrOf (SortSt.mk' general' (vs.toArray.zip vs.toArray) #[] 7 none)).map (·.2)) = vs.toArray := by
  show (vs.toArray.zip vs.toArray).map (·.2) = _
  apply Array.toList_inj.mp
  simp only [Array.toList_map, Array.toList_zip]
  exact List.map_snd_zip (Nat.le_refl _)
 obtain ⟨c2, hc2⟩ := (⟨_, get?_update_seq ho6 fun _ => vs.toArray⟩ : ∃ c2, ((((h.update a (Obj.mapSeq fun _ => (#[] : Array Value))).push (seqObj "tuple" vs.toArray 0)).push (seqObj "list" #[] 0)).update a (Obj.mapSeq fun _ => vs.toArray)).get? a = some (seqObj "list" vs.toArray c2))
 refine wpAny_bind (seqEpoch_at ho6 rfl ?_)
 rw [hout]
 refine wpAny_bind (listUpdate_at ho6 rfl ?_ (Nat.zero_le _) (by rw [List.size_toArray, sizeLine_eq]; lia))
 rw [if_neg (by rw [bne_self_eq_false]; exact Bool.false_ne_true)]
 exact wpAny_pure (H _ c2 (fun b o nb e => ((Heap.SameBut.update _ a _).2 b nb).trans (k1 b o nb e)) hc2)
theorem sort_pairs {a : Addr} {vs : List Value} {ks : List Str} {n : Nat} {Pq : PySem.Fin → Shared → Prop} (hns : h.Ns L m) (haL : a ≠ L) (ho : h.get? a = some (seqObj "list" vs.toArray n)) (h64 : vs.length < 64) (hl : ks.length = vs.length)
  (hv : ∀ i (hi : i < vs.length), ∃ b k x c, vs[i] = .ref b ∧ b ≠ a ∧ b ≠ L ∧ h.get? b = some (seqObj "tuple" #[.str (ks[i]'(by lia)) k, x] c))
  (hs : ∀ i (hi : i + 1 < ks.length), ks[i].cps.toList < ks[i + 1].cps.toList)
  (H : ∀ h' t' e, (∀ b o, b ≠ a → b ≠ L → h.get? b = some o → h'.get? b = some o) → h'.Ns L m → h'.get? a = some (seqObj "list" vs.toArray e) → Pq (.done (.ret .none)) ⟨h', gs, dr, t', os⟩) :
  wpAny (model P w) A (Builtin.«list.sort» ⟨[.ref a], []⟩) Pq E ⟨h, gs, dr, t, os⟩ := by
 by_cases h2 : vs.length < 2
 ·refine sort_short ho h2 fun h' e k hh => H h' t e (fun b o nb _ e => k b o nb e) (Ns_at hns fun o e => k L o (fun z => haL z.symm) e) hh
 have h2 : 2 ≤ vs.length := by lia
 have F : Fr ⟨#[], h.life⟩ L h m := ⟨hns, fun b o e => by simp [Heap.get?] at e, Nat.zero_le _⟩
 have N : News ⟨#[], h.life⟩ L h (others h a L) := fun p hp => by
  refine anE3 (mem_others.mp (show (p.1, p.2) ∈ _ from hp)) fun e _ nb => ?_
  exact (anI3 e nb (by simp [Heap.get?]))
 refine kat_list_sort (s := ⟨h, gs, dr, t, os⟩) F N ho haL (by simp [Heap.get?]) (fun p hp => (mem_others.mp (show (p.1, p.2) ∈ _ from hp)).2.1) h2 h64 fun e1 h' F' N' => ?_
 have tup : ∀ i (hi : i < vs.length), ∃ b k x c, vs[i] = .ref b ∧ h'.get? b = some (seqObj "tuple" #[.str (ks[i]'(by lia)) k, x] c) := fun i hi => by
  (refine exE4 (hv i hi) fun b k x c zr1 => anE4 zr1 fun e na nL eb => ?_; clear zr1)
  exact (exI4 b k x c ⟨e, ((N' (b, _) (.tail _ (mem_others.mpr (anI3 eb na nL)))).1)⟩)
 have kt : ∀ (l : List Value) (j : Nat) (e : j + l.length = vs.length), (∀ i (hi : i < l.length), l[i] = vs[j + i]'(by lia)) → ∃ fs, KatTups h' l fs ∧ fs.length = l.length ∧ ∀ v ∈ fs, ∃ x k, v = Value.str x k := by
  intro l
  induction l with
  | nil => exact fun _ _ _ => ⟨([]), (anI3 KatTups.nil rfl (fun _ m => absurd m List.not_mem_nil))⟩
  | cons v l ih =>
   intro j e hl'
   have zh2 := ih (j + 1) (by simp only [List.length_cons] at e; lia) fun i hi => by
    have := hl' (i + 1) (by simp only [List.length_cons]; lia)
    rw [List.getElem_cons_succ] at this
    rw [this]
    congr 1
    lia
   refine Exists.elim zh2 fun fs zr3 => anE3 zr3 fun h1 h2 h3 => ?_
   clear zh2 zr3
   simp only [List.length_cons] at e
   (refine exE4 (tup j (by lia)) fun b k x c zr4 => anE2 zr4 fun e1 e2 => ?_; clear zr4)
   have e0 : v = .ref b := by
    have := hl' 0 (by simp only [List.length_cons]; lia)
    rw [List.getElem_cons_zero] at this
    rw [this]; simpa using e1
   subst e0
   refine ⟨(_ :: fs), (anI3 (KatTups.cons e2 rfl rfl (f := .str (ks[j]'(by lia)) k) (by rfl) h1) (by simp [h2]) (fun u mu => ?_))⟩
   rcases List.mem_cons.mp mu with rfl | mu
   ·exact (exI2 _ _ rfl)
   ·exact h3 u mu
 (refine Exists.elim (kt vs 0 (by simp) fun i hi => by simp) fun fs zr5 => anE3 zr5 fun kt1 kt2 kt3 => ?_; clear zr5)
 refine kat_kind (T := .type "str") kt1 (by lia) (fun v hv => ?_) (by decide) ?_
 ·(refine exE2 (kt3 v hv) fun x k ze6 => ?_; subst ze6)
  exact Looks.of_pure rfl
 refine sort_same (Good := fun s => ∃ t', s = ⟨h', gs, dr, t', os⟩) h2 (fun i C s hi hg hC => ?_) ⟨t, rfl⟩ fun s' hg => ?_
 ·obtain ⟨t', rfl⟩ := hg
  (refine exE4 (tup i (by lia)) fun b k x c zr7 => anE2 zr7 fun e1 e2 => ?_; clear zr7)
  (refine exE4 (tup (i + 1) hi) fun b' k' x' c' zr8 => anE2 zr8 fun e1' e2' => ?_; clear zr8)
  unfold kas_ask
  rw [show vs.getD (i + 1) Value.none = .ref b' by simp [hi, e1'], show vs.getD i Value.none = .ref b by simp [Nat.lt_of_succ_lt hi, e1]]
  refine kat_lt e2' rfl e2 rfl (kat_cons ?_)
  have hlt := hs i (by lia)
  have hne : ¬ ks[i + 1]'(by lia) = ks[i]'(by lia) := fun z => by
   rw [z] at hlt
   exact List.lt_irrefl _ hlt
  refine (SK w).eqBool (a := ks[i + 1]'(by lia)) (b := ks[i]'(by lia)) (strKind_is P w _ _) (strKind_is P w _ _) ?_
  rw [decide_eq_false hne]
  refine kat_no (oneLt_str (s := ⟨h', gs, dr, t', os⟩) ?_)
  rw [decide_eq_false (fun z => List.lt_irrefl _ (List.lt_trans z hlt))]
  exact hC _ ⟨t', rfl⟩
 ·obtain ⟨t', rfl⟩ := hg
  have na := N' (a, seqObj "list" #[] e1) (.head _)
  refine KasFin.intro (s := ⟨h', gs, dr, t', os⟩) F' N' (.head fun p hp => (mem_others.mp (show (p.1, p.2) ∈ _ from hp)).2.1) fun h'' c F'' N'' => ?_
  have eout : ((List.toArray (List.range vs.length)).toList.map fun i => vs.getD i Value.none) = vs := by
   apply List.ext_getElem
   ·simp
   ·intro i h1 h2
    simp [h2]
  rw [eout] at N''
  exact H h'' t' c (fun b o na nL e => (N'' (b, o) (.tail _ (mem_others.mpr (anI3 e na nL)))).1) F''.ns (N'' _ (.head _)).1
end
end
section
open PySem PySem.W PyProof.Rows
theorem Cur.grown {V : Addr → Prop} {g₀ h₀ : Heap} {L : Addr} {g h h' : Heap} {m m'} {ow : List Ent} (C : Cur V g₀ h₀ L g h m ow)
  (k : ∀ b o, b ≠ L → h.get? b = some o → h'.get? b = some o) (ns : h'.Ns L m') :
  ∃ g', Cur V g₀ h₀ L g' h' m' ow ∧ Keep g g' ∧ (∀ b o, h'.get? b = some o → h.get? b = none → g'.get? b = some o) := by
 have live : ∀ b, h.get? b ≠ none → h'.get? b ≠ none := fun b e => by
  by_cases z : b = L
  ·rw [z]; exact Ns_some ns
  ·cases q : h.get? b with
   | none => exact absurd q e
   | some o => rw [k b o z q]; exact Option.some_ne_none _
 have gL : ∀ b o, g.get? b = some o → b ≠ L := fun b o e z => by rw [z, C.F.off] at e; cases e
 have hL : ∀ b o, h₀.get? b = some o → b ≠ L := fun b o e z => by rw [z, C.new] at e; cases e
 have sub : ∀ b o, (grow g h h').get? b = some o → g.get? b ≠ none ∨ h.get? b = none := fun b o e => (grow_get.mp e).2
 have off : ∀ b, g.get? b = none → h.get? b ≠ none → (grow g h h').get? b = none := fun b e n => by
  cases q : (grow g h h').get? b with
  | none => rfl
  | some o =>
   rcases sub b o q with z | z
   ·exact absurd e z
   ·exact absurd z n
 have kg : Keep g (grow g h h') := fun b o e => grow_get.mpr ⟨k b o (gL b o e) (C.X.gh b o e), .inl (by rw [e]; exact Option.some_ne_none _)⟩
 refine ⟨grow g h h', ⟨⟨C.X.gg.trans kg, fun b o e => (grow_get.mp e).1, fun b o nv e => k b o (hL b o e) (C.X.old b o nv e), fun b e => live b (C.X.live b e), fun b e n => ?_⟩, ⟨ns, off L C.F.off (Ns_some C.F.ns)⟩, C.new,
  ⟨fun e me => ?_, C.O.nd, fun e me => off e.1 (C.O.off e me) (C.O.at_ e me).live⟩, C.nL, C.vis⟩, kg, fun b o e n => grow_get.mpr ⟨e, .inr n⟩⟩
 ·cases q : (grow g h h').get? b with
  | none => exact absurd q e
  | some o =>
   rcases sub b o q with z | z
   ·exact C.X.fresh b z n
   ·refine .inr ?_
    cases r : h₀.get? b with
    | none => rfl
    | some o' => exact absurd z (C.X.live b (by rw [r]; exact Option.some_ne_none _))
 ·obtain ⟨o, q, r⟩ := C.O.at_ e me
  exact ⟨o, k _ _ (C.nL e me) q, fun h'' k' e' => r h'' (kg.trans k') e'⟩
theorem Cur.kept {V : Addr → Prop} {g₀ h₀ : Heap} {L : Addr} {g h h' : Heap} {m} {ow : List Ent} (C : Cur V g₀ h₀ L g h m ow) (k : Keep h h') : ∃ g', Cur V g₀ h₀ L g' h' m ow ∧ Keep g g' ∧ (∀ b o, h'.get? b = some o → h.get? b = none → g'.get? b = some o) :=
 C.grown (fun b o _ e => k b o e) (Ns_at C.F.ns fun o e => k L o e)
theorem AllIs.of_get {w : World} {T : Type} [DecidableEq T] {p : VK w T} {h : Heap} : ∀ {ks : List T} {vs : List Value}, ks.length = vs.length → (∀ (i : Nat) k v, ks[i]? = some k → vs[i]? = some v → p.is h k v) → AllIs p h ks vs := by
 intro ks
 induction ks with
 | nil =>
  intro vs e _
  cases vs with
  | nil => exact .nil
  | cons _ _ => cases e
 | cons k ks ih =>
  intro vs e f
  cases vs with
  | nil => cases e
  | cons v vs => exact .cons (f 0 k v rfl rfl) (ih (Nat.succ.inj e) fun i k' v' a b => f (i + 1) k' v' a b)
noncomputable abbrev arcK (w : World) : VK w (Str × Int) := VK.pair (VK.of (SK w)) (VK.of (IK w))
noncomputable abbrev tupK (w : World) : VK w (List (Str × Int) × Bool) := VK.pair (VK.list (arcK w)) (VK.bool w)
section
variable {w : World} {A : Around} {E : Value → Shared → Prop} {h : Heap} {gs : Array GenState} {dr : Drawn} {t : Tok} {os : OsState} {L : Addr} {m : Str → Option Value}
theorem sorted_items {r d : Addr} {kvs : List (Str × Value)} {l : List (Str × Int)} {Q : Value → Shared → Prop} (hh : A.handled = none) (hns : h.Ns L m) (hv : h.IsItemsView r d) (hd : h.DictOf (SK w) d kvs) (h64 : kvs.length < 64)
  (hl : l.length = kvs.length) (hkv : ∀ (i : Nat) k v, kvs[i]? = some (k, v) → ∃ j t, l[i]? = some (k, j) ∧ v = .int j t)
  (hs : ∀ i (hi : i + 1 < kvs.length), kvs[i].1.cps.toList < kvs[i + 1].1.cps.toList)
  (H : ∀ h' t' B vs e, (∀ b o, b ≠ L → h.get? b = some o → h'.get? b = some o) → h'.Ns L m → h.get? B = none → h'.get? B = some (seqObj "list" vs e) → AllIs (arcK w) h' l vs.toList → (∀ v ∈ vs.toList, ∃ b, v = .ref b ∧ h.get? b = none) → Q (.ref B) ⟨h', gs, dr, t', os⟩) :
  wpAny (model P w) A (call (.builtin "sorted") [.ref r]) Q E ⟨h, gs, dr, t, os⟩ := by
 obtain ⟨ep, hat⟩ := hd.dictAt
 have hz : kvs.length ≤ sizeLine := by rw [sizeLine_eq]; omega
 refine Calls.call_function_entry kind_sorted plain_sorted entry_sorted (args_sorted1 _) ?_
 unfold Builtin.«sorted»
 refine wpAny_bind (m := checkCount "sorted" 1 1 _) (wpAny_pure ?_)
 refine wpAny_bind (kdx_collect (s := ⟨h, gs, dr, t, os⟩) (A := A.in1) (knd := SK w) (kvs := kvs) (ep := ep) hh hv hat hz fun h₁ t₁ as k₁ hl₁ G => ?_)
 refine wpAny_bind (wpAny_newList ?_ (by rw [List.length_map, hl₁]; exact hz))
 have kp := Keep.push h₁ (seqObj "list" (as.map Value.ref).toArray 0)
 have hB : (h₁.push (seqObj "list" (as.map Value.ref).toArray 0)).get? h₁.objs.size = some (seqObj "list" (as.map Value.ref).toArray 0) := Heap.get?_push_size _ rfl
 have hns' := Ns_at hns fun o e => kp _ _ (k₁ L o e)
 have hLB : h₁.objs.size ≠ L := fun z => by
  have := Ns_some (Ns_at hns fun o e => k₁ L o e)
  rw [← z, size_none] at this; exact this rfl
 have hnew : ∀ a ∈ as, h.get? a = none := fun a ma => by
  cases q : h.get? a with
  | none => rfl
  | some o => exact absurd (Heap.lt_size q) (Nat.not_lt.mpr (Nat.le_of_lt (G.above a ma)))
 have hBn : h.get? h₁.objs.size = none := by
  cases q : h.get? h₁.objs.size with
  | none => rfl
  | some o => exact absurd (k₁ _ _ q) (by rw [size_none]; exact fun z => by cases z)
 have tup : ∀ i (hi : i < as.length), ∃ k x c j u, as[i] = k ∧ kvs[i]'(hl₁ ▸ hi) = (x, .int j u) ∧ l[i]? = some (x, j) ∧ h₁.get? k = some (seqObj "tuple" #[.str x c, .int j u] 0) := fun i hi => by
  (refine exE3 (G.pairs i as[i] (List.getElem?_eq_getElem hi)) fun key k x zr1 => anE3 zr1 fun e1 e2 e3 => ?_; clear zr1)
  (refine exE2 (hkv i k x e1) fun j u zr3 => anE2 zr3 fun e4 ze2 => ?_; clear zr3; subst ze2)
  obtain ⟨c, rfl⟩ := Value.isStrOf_shape e2
  have : kvs[i]'(hl₁ ▸ hi) = (k, .int j u) := by
   rw [List.getElem?_eq_getElem (hl₁ ▸ hi)] at e1; exact Option.some.inj e1
  exact (exI5 (as[i]) k c j u (anI4 rfl this e4 e3))
 refine wpAny_bind (wpAny_holding (wpAny_call_entry slot_list_sort ⟨_, hB, rfl⟩ entry_list_sort ?_ (args_list_sort _)))
 refine sort_pairs (vs := as.map Value.ref) (ks := kvs.map (·.1)) hns' hLB hB (by rw [List.length_map, hl₁]; exact h64) (by simp [hl₁]) (fun i hi => ?_) (fun i hi => ?_) fun h₂ t₂ e k₂ ns₂ hB₂ => ?_
 ·have hi' : i < as.length := by simpa using hi
  (refine exE5 (tup i hi') fun k x c j u zr4 => anE4 zr4 fun e1 e2 _ e4 => ?_; clear zr4)
  have hk : as[i] ∈ as := List.getElem_mem _
  refine (exI4 (as[i]) c (.int j u) 0 (anI4 (by simp) (fun z => ?_) (fun z => ?_) ?_))
  ·have := G.there hk; rw [z] at this; exact Nat.lt_irrefl _ this
  ·have := hnew _ hk; rw [z] at this; exact Ns_some hns this
  ·rw [e1]; simp only [List.getElem_map, e2]; exact kp _ _ e4
 ·simp only [List.getElem_map]
  simp only [List.length_map] at hi
  exact hs i hi
 ·refine ⟨.none, rfl, wpAny_pure ⟨_, rfl, H h₂ t₂ _ (as.map Value.ref).toArray e (fun b o nb x => ?_) ns₂ hBn hB₂ ?_ ?_⟩⟩
  ·refine k₂ b o (fun z => ?_) nb (kp _ _ (k₁ _ _ x))
   rw [z, hBn] at x; cases x
  ·refine AllIs.of_get (by simp [hl, hl₁]) fun i k v e1 e2 => ?_
   simp only [List.getElem?_map, Option.map_eq_some_iff] at e2
   obtain ⟨a', ea, rfl⟩ := e2
   obtain ⟨hi, ea'⟩ := List.getElem?_eq_some_iff.mp ea
   (refine exE5 (tup i hi) fun k' x c j u zr5 => anE4 zr5 fun e3 e4 e5 e6 => ?_; clear zr5)
   rw [e5] at e1; cases e1
   rw [ea'] at e3; subst e3
   have hk : a' ∈ as := ea' ▸ List.getElem_mem _
   refine ⟨.str x c, .int j u, ⟨a', _, 0, rfl, k₂ _ _ (fun z => ?_) (fun z => ?_) (kp _ _ e6), rfl, rfl⟩, strKind_is P w _ _, intKind_is P w _ _⟩
   ·have := G.there hk; rw [z] at this; exact Nat.lt_irrefl _ this
   ·have := hnew _ hk; rw [z] at this; exact Ns_some hns this
  ·intro v mv
   simp only [List.mem_map] at mv
   obtain ⟨a', ma, rfl⟩ := mv
   exact ⟨a', rfl, hnew a' ma⟩
end
end
section
open PySem PySem.W PyProof.Rows
noncomputable def builtNames : List Str := ["set", "tuple", "sorted", "list", "len", "range", "enumerate", "ord", "chr", "zip", "Exception", "KeyError"]
theorem bt_tuple : bootBuiltins "tuple" = some (.type "tuple") := by decide +kernel
theorem bt_sorted : bootBuiltins "sorted" = some (.builtin "sorted") := by decide +kernel
theorem bt_list : bootBuiltins "list" = some (.type "list") := by decide +kernel
theorem bt_set : bootBuiltins "set" = some (.type "set") := by decide +kernel
theorem bt_len : bootBuiltins "len" = some (.builtin "len") := by decide +kernel
theorem bt_range : bootBuiltins "range" = some (.type "range") := by decide +kernel
theorem bt_enumerate : bootBuiltins "enumerate" = some (.type "enumerate") := by decide +kernel
theorem bt_ord : bootBuiltins "ord" = some (.builtin "ord") := by decide +kernel
theorem bt_chr : bootBuiltins "chr" = some (.builtin "chr") := by decide +kernel
theorem bt_zip : bootBuiltins "zip" = some (.type "zip") := by decide +kernel
theorem bt_Exception : bootBuiltins "Exception" = some (.type "Exception") := by decide +kernel
theorem bt_KeyError : bootBuiltins "KeyError" = some (.type "KeyError") := by decide +kernel
structure KF4 (K : Frag) : Prop extends KF3 K where
 bn : ∀ n ∈ builtNames, nsIn K mainGlobals n = some none
 mTup : Meth K 271 "as_tuple" "DMNode.as_tuple" 268 267 (clsSt 6 1) .none
 hhN : hasDictIn K 271 = true
 pgN : ∀ n : Str, n ∈ (["n", "arcs", "final"] : List Str) → plainGet K 271 n = true ∧ findIn K (.ref 271) n = some none
section
variable {w : World} {A : Around} {E : Value → Shared → Prop} {K : Frag} {mg mb : Str → Option Value} {g h : Heap} {gs : Array GenState} {dr : Drawn} {t : Tok} {os : OsState} {env : Env}
theorem callT1 {x : Str} {T : String} {p pos : Pos} {e : Expr} {Q : Value → Shared → Prop} (gh : Keep g h) (B : Base w K mg mb g) (ex : nsIn K mainGlobals x = some none) (hv : bootBuiltins x = some (.type T)) (hn : x ≠ "__name__")
  (H : wpAny (model P w) A (eval e env) (fun v s => wpAny (model P w) A (call (.type T) [v]) Q E s) E ⟨h, gs, dr, t, os⟩)
  (h1 : starEach [e] env = (false, eval e env) :: starEach [] env := by rfl)
  (hg : env.globals = mainGlobals := by rfl) (hb : env.builtins = builtinsNs := by rfl) (hk : env.scope.kind = .function := by rfl) (hx : env.kindOf x = some .globalImplicit := by rfl) (hd : (x == ("__debug__" : Str)) = false := by decide) :
  wpAny (model P w) A (eval (.Call (.Name x p) [e] [] pos) env) Q E ⟨h, gs, dr, t, os⟩ :=
 wpAny_Call_NameR (nameB gh B ex hv hn (PyProof.Rows.callWith_type1 (wpAny_items_cons (wpAny_mono H (fun _ _ z => wpAny_items_nil z) fun _ _ z => z) h1) h1 rfl) hg hb hk hx hd)
theorem callF1 {x : Str} {id : String} {p pos : Pos} {e : Expr} {Q : Value → Shared → Prop} (gh : Keep g h) (B : Base w K mg mb g) (ex : nsIn K mainGlobals x = some none) (hv : bootBuiltins x = some (.builtin id)) (hn : x ≠ "__name__")
  (H : wpAny (model P w) A (eval e env) (fun v s => wpAny (model P w) A (call (.builtin id) [v]) Q E s) E ⟨h, gs, dr, t, os⟩)
  (h1 : starEach [e] env = (false, eval e env) :: starEach [] env := by rfl)
  (hg : env.globals = mainGlobals := by rfl) (hb : env.builtins = builtinsNs := by rfl) (hk : env.scope.kind = .function := by rfl) (hx : env.kindOf x = some .globalImplicit := by rfl) (hd : (x == ("__debug__" : Str)) = false := by decide) :
  wpAny (model P w) A (eval (.Call (.Name x p) [e] [] pos) env) Q E ⟨h, gs, dr, t, os⟩ :=
 wpAny_Call_NameR (nameB gh B ex hv hn (PyProof.Rows.callWith_builtin1 (wpAny_items_cons (wpAny_mono H (fun _ _ z => wpAny_items_nil z) fun _ _ z => z) h1) h1 rfl) hg hb hk hx hd)
theorem bmeth0_ {o : Expr} {name : Str} {apos pos : Pos} {Q : Value → Shared → Prop} {s : Shared}
  (H : wpAny (model P w) A (eval o env) (fun ov s₁ => ∃ T id, PlainAttrs T ∧ Slot T name id ∧ typeOf (.builtin id) = pure (.type "method_descriptor") ∧ s₁.TypeIs ov T ∧ (∀ a, ov = .ref a → ∃ ob, s₁.heap.get? a = some ob ∧ ob.dict = none) ∧
   wpAny (model P w) A (call (.builtin id) [ov]) Q E s₁) E s)
  (hbase : attributeBase o name env (eval o env) = eval o env := by with_unfolding_all rfl) (hline : (apos.endLine == pos.line) = true := by rfl) :
  wpAny (model P w) A (eval (.Call (.Attribute o name apos) [] [] pos) env) Q E s := by
 refine wpAny_Call_method0_late hbase hline (wpAny_mono H (fun ov s₁ h₁ => ?_) fun _ _ x => x)
 (refine exE2 h₁ fun T id zr1 => anE6 zr1 fun a b c d e f => ?_; clear h₁ zr1)
 exact ⟨T, id, a, b, c, d, e, Calls.callWith_builtin rfl (evalArgs_nil3 f)⟩
structure NodeAt (w : World) (h : Heap) (x dx ar : Addr) (n : Int) (fin : Bool) (l : List (Nat × Int)) : Prop where
 inst : h.get? x = some (instObj 271 dx)
 dict : ∃ t tn, h.get? dx = some (dictOf (nodeEs w t n tn ar fin) 3)
 arcs : ArcsAt w h ar l
 sys : (ar == sysModules) = false
theorem NodeAt.keeps {w : World} {g h : Heap} {x dx ar n fin l} (N : NodeAt w g x dx ar n fin l) (k : Keep g h) : NodeAt w h x dx ar n fin l :=
 ⟨k _ _ N.inst, (by refine exE2 N.dict fun t tn e => ?_; exact (exI2 t tn (k _ _ e))), N.arcs.keeps k, N.sys⟩
noncomputable def arcsOf (l : List (Nat × Int)) : List (Str × Int) := l.map fun x => (ch x.1, x.2)
theorem ArcsAre.get {kvs l} (h : ArcsAre kvs l) : ∀ i : Nat, (∃ c j t, kvs[i]? = some (ch c, .int j t) ∧ l[i]? = some (c, j)) ∨ (kvs[i]? = none ∧ l[i]? = none) := by
 induction h with
 | nil => exact fun i => .inr ⟨by simp, by simp⟩
 | @cons c j t kvs l _ ih =>
  intro i
  cases i with
  | zero => exact .inl (exI3 c j t ⟨(by simp), (by simp)⟩)
  | succ i => simpa using ih i
theorem AllIs.freeze {w : World} {g h : Heap} {ks : List (Str × Int)} {vs : List Value} (a : AllIs (arcK w) h ks vs) (f : ∀ v ∈ vs, ∀ b o, v = .ref b → h.get? b = some o → g.get? b = some o) : AllIs (arcK w) g ks vs := by
 induction a with
 | nil => exact .nil
 | cons h1 _ ih =>
  obtain ⟨x, y, ⟨b, o, n, e, ho, r⟩, p, q⟩ := h1
  exact .cons ⟨x, y, ⟨b, o, n, e, f _ (mem0) b o e ho, r⟩, p, q⟩ (ih fun v mv => f v (.tail _ mv))
theorem as_tuple_spec {R : Result → Shared → Prop} (kf : KF4 K) (gh : Keep g h) (B : Base w K mg mb g) (hroom : A.depth < recursionLimit) (hh : A.handled = none) {x dx ar : Addr} {n : Int} {fin : Bool} {l : List (Nat × Int)} (N : NodeAt w g x dx ar n fin l) (hu : upL l) (h64 : l.length < 64)
  (H : ∀ g' h' t' tt, Ext RO g h g' h' → (tupK w).is g' (arcsOf l, fin) (.ref tt) → R (.ok (.ret (.ref tt))) ⟨h', gs, dr, t', os⟩) :
  codeAny (model P w) A (.call (.ref 268) ⟨[.ref x], []⟩) R ⟨h, gs, dr, t, os⟩ := by
 refine enter RO [] .nil (fun _ m => absurd m List.not_mem_nil) (binds := [("self", .ref x)]) gh B.X B.lim kf.mTup.fn hroom (fun pm => .of_eq (by with_unfolding_all rfl)) (by rfl) (fun h₁ L t₁ C k₁ => ?_) (by rfl) (by rfl) (by rfl) (by decide +kernel)
 refine exE2 N.dict fun td tn hdx => ?_
 have I : Inst g x 271 dx (nodeEs w td n tn ar fin) 3 := ⟨N.inst, hdx⟩
 have pa := kf.pgN "arcs" (by decide)
 have pf := kf.pgN "final" (by decide)
 obtain ⟨kvs, hd, ha⟩ := N.arcs
 refine wpAny_execs_cons (assignL (callT1 C.X.gh B (kf.bn "tuple" (by decide)) bt_tuple (by decide) (callF1 C.X.gh B (kf.bn "sorted" (by decide)) bt_sorted (by decide)
  (bmeth0_ (attrN C (by rfl) (attr_own C.X.gh B.X I pa.1 kf.hhN pa.2 (by rfl) rfl fun t₂ => ?_))))))
 have hd₁ := hd.keep C.X.gh
 refine (exI2 ("dict") ("dict.items") (anI6 PySem.F.plainAttrs_dict PySem.F.slot_dict_items PySem.F.type_dict_items hd₁.typeIs hd₁.mapOf.noDict ?_))
 refine call_meetsIn (s := ⟨h₁, gs, dr, t₂, os⟩) PySem.F.slot_dict_items hd₁.typeIs PySem.F.entry_dict_items (PySem.F.args_dict_items_1 _) (meets_dict_items (SK w) ar N.sys) ⟨⟨kvs, hd₁⟩, ?_⟩
 have kp := Keep.push h₁ { cls := .type "dict_items", data := .fields #[.ref ar] }
 (refine Exists.elim (C.kept kp) fun g₂ zr2 => anE3 zr2 fun C₂ kg₂ _ => ?_; clear zr2)
 have hv : (h₁.push { cls := .type "dict_items", data := .fields #[.ref ar] }).IsItemsView h₁.objs.size ar := ⟨_, Heap.get?_push_size _ rfl, rfl, rfl⟩
 have hlen : kvs.length = l.length := ha.length
 refine sorted_items (l := arcsOf l) (m := _) hh C₂.F.ns hv (hd₁.keep kp) (by rw [hlen]; exact h64) (by simp [arcsOf, hlen]) (fun i k v e => ?_) (fun i hi => ?_) fun h₃ t₃ D vs e k₃ ns₃ hD hD₃ hall hnew => ?_
 ·rcases ha.get i with zc | ⟨e1, _⟩
  ·(refine exE3 zc fun c j t zr1 => anE2 zr1 fun e1 e2 => ?_; clear zc zr1)
   rw [e1] at e; cases e
   exact (exI2 j t ⟨(by simp [arcsOf, e2]), rfl⟩)
  ·rw [e1] at e; cases e
 ·have p := List.pairwise_iff_getElem.mp hu i (i + 1) (by simp; lia) (by simp; lia) (Nat.lt_succ_self i)
  simp only [List.getElem_map] at p
  rcases ha.get i with zc | ⟨e1, _⟩
  ·(refine exE3 zc fun c j t zr2 => anE2 zr2 fun e1 e2 => ?_; clear zc zr2)
   rcases ha.get (i + 1) with ⟨c', j', t', e1', e2'⟩ | ⟨e1', _⟩
   ·rw [List.getElem?_eq_getElem (by lia)] at e1 e1' e2 e2'
    have q1 := Option.some.inj e1; have q2 := Option.some.inj e1'; have q3 := Option.some.inj e2; have q4 := Option.some.inj e2'
    rw [q1, q2]
    rw [q3, q4] at p
    show [c] < [c']
    exact List.Lex.rel p
   ·rw [List.getElem?_eq_getElem hi] at e1'; cases e1'
  ·rw [List.getElem?_eq_getElem (Nat.lt_of_succ_lt hi)] at e1; cases e1
 (refine Exists.elim (C₂.grown k₃ ns₃) fun g₃ zr3 => anE3 zr3 fun C₃ kg₃ fz₃ => ?_; clear zr3)
 have hlist : h₃.IsList D vs := ⟨_, hD₃, rfl, e, rfl⟩
 have hvs : vs.size ≤ sizeLine := by
  have : ∀ {ks : List (Str × Int)} {us : List Value} {hp : Heap}, AllIs (arcK w) hp ks us → us.length = ks.length := fun {ks us hp} a => by induction a <;> simp_all
  have e1 := this hall
  rw [← Array.length_toList, e1, arcsOf, List.length_map, sizeLine_eq]; lia
 refine call_tuple_list (s := ⟨h₃, gs, dr, t₃, os⟩) hlist (fun h₄ k₄ => ?_) hvs
 have k₄' : Keep h₃ (h₄.push { cls := .type "tuple", data := .seq vs }) := fun b o e => Heap.get?_push_of_some _ (k₄ b o e)
 (refine Exists.elim (C₃.kept k₄') fun g₄ zr4 => anE3 zr4 fun C₄ kg₄ fz₄ => ?_; clear zr4)
 have hT : (h₄.push { cls := .type "tuple", data := .seq vs }).get? h₄.objs.size = some { cls := .type "tuple", data := .seq vs } := Heap.get?_push_size _ rfl
 have hTn : h₃.get? h₄.objs.size = none := by
  cases q : h₃.get? h₄.objs.size with
  | none => rfl
  | some o => exact absurd (k₄ _ _ q) (by rw [size_none]; exact fun z => by cases z)
 have gT := fz₄ _ _ hT hTn
 refine storeL C₄ fun h₅ t₅ C₅ _ => ?_
 refine wpAny_execs_cons (wpAny_Return_some (wpAny_Tuple (wpAny_items_cons (nameL C₅ (by rfl) (wpAny_items_cons (attrN C₅ (by rfl) (attr_own C₅.X.gh (B.keeps (kg₂.trans (kg₃.trans kg₄))).X (I.keeps (kg₂.trans (kg₃.trans kg₄))) pf.1 kf.hhN pf.2 (by rfl) rfl fun t₆ => wpAny_items_nil ⟨(by show 2 ≤ sizeLine; decide), ?_⟩)))))))
 have k₆ := Keep.push h₅ { cls := .type "tuple", data := .seq #[.ref h₄.objs.size, .bool fin] }
 (refine Exists.elim (C₅.kept k₆) fun g₆ zr5 => anE3 zr5 fun C₆ kg₆ fz₆ => ?_; clear zr5)
 have gT6 := fz₆ _ _ (Heap.get?_push_size h₅ (o := { cls := .type "tuple", data := .seq #[.ref h₄.objs.size, .bool fin] }) rfl) (size_none h₅)
 refine H g₆ _ _ _ C₆.X ⟨.ref h₄.objs.size, .bool fin, ⟨_, _, 0, rfl, gT6, rfl, rfl⟩, ⟨vs.toList, ⟨_, _, 0, rfl, kg₆ _ _ gT, rfl, by simp⟩, ?_⟩, rfl⟩
 have hall₃ : AllIs (arcK w) g₃ (arcsOf l) vs.toList := hall.freeze fun v mv b o e ho => by
  obtain ⟨b', e', hb'⟩ := hnew v mv
  rw [e] at e'; cases e'
  exact fz₃ _ _ ho hb'
 exact hall₃.keeps fun b o _ _ _ e => kg₆ _ _ (kg₄ _ _ e)
end
end
section
open PySem PySem.W PyProof.Rows
noncomputable def FrsOk (h : Heap) (l : List Env) : Prop := ∀ env ∈ l, env.scope.kind ≠ .module ∧ ∃ L m, env.frame = some L ∧ h.Ns L m
noncomputable def frs (l : List Env) : Addr → Prop := fun b => b ∈ l.filterMap (·.frame)
structure Noted (l : List Env) (h h' : Heap) : Prop where
 keep : ∀ b o, ¬ frs l b → h.get? b = some o → h'.get? b = some o
 ns : ∀ a m, h.Ns a m → h'.Ns a m
theorem funFrames_of {h base : Heap} : ∀ {l : List Env}, FrsOk h l → (∀ b, frs l b → base.get? b = none) → h.FunFrames base l
 | [], _, _ => trivial
 | env :: l, f, g => by
  (refine anE2 (f env (mem0)) fun k zr1 => exE2 zr1 fun L m zr2 => anE2 zr2 fun e hn => ?_; clear zr2 zr1)
  refine Heap.FunFrames.cons k e hn (g L ?_) (funFrames_of (fun env' me => f env' (.tail _ me)) fun b hb => g b ?_)
  ·unfold frs; rw [List.filterMap_cons, e]; exact mem0
  ·unfold frs; rw [List.filterMap_cons, e]; exact List.mem_cons_of_mem _ hb
theorem frsOk_keeps {h h' : Heap} {l : List Env} (k : Keep h h') (f : FrsOk h l) : FrsOk h' l := fun env me => by
 (refine anE2 (f env me) fun a zr3 => exE2 zr3 fun L m zr4 => anE2 zr4 fun e hn => ?_; clear zr4 zr3)
 exact ⟨a, (exI2 L m ⟨e, (Ns_at hn fun o q => k _ _ q)⟩)⟩
section
variable {w : World} {A : Around} {E : Value → Shared → Prop} {h : Heap} {gs : Array GenState} {dr : Drawn} {t : Tok} {os : OsState}
theorem caught_new {env : Env} {outer : List Env} {L e : Addr} {X T : String} {h₁ : Heap} {te : Expr} {b₀ : Stmt} {suite : List Stmt} {pos : Pos} {rest : List ExceptHandler} {Q : Flow → Shared → Prop}
  (hfr : A.frames = some (env :: outer)) (hf : env.frame = some L) (hok : FrsOk h (env :: outer)) (hx : Heap.NewExc h h₁ e X)
  (hexc : isSubtype (.type T) (.type "BaseException") = pure true) (hnt : isSubtype (.type ((Manifest.find? T).elim "type" fun x => x.metatype)) (.type "tuple") = pure false)
  (hsub : isSubtype (.type X) (.type T) = pure true)
  (hte : ∀ h' t' Q', Noted (env :: outer) h h' → Q' (.type T) ⟨h', gs, dr, t', os⟩ → wpAny (model P w) (A.mark (some (.ref e))) (eval te env) Q' (fun _ _ => False) ⟨h', gs, dr, t', os⟩)
  (H : ∀ h' t', Noted (env :: outer) h h' → wpAny (model P w) (A.mark (some (.ref e))) (execs (b₀ :: suite) env) Q (fun _ _ => False) ⟨h', gs, dr, t', os⟩) :
  wpAny (model P w) A (noteFrame (.ref e) env) (fun _ s₂ => wpAny (model P w) A (setFlight (.ref e) none) (fun _ s₃ => wpAny (model P w) A (handleBy (.ref e) env (.ExceptHandler (some te) none (b₀ :: suite) pos :: rest)) Q E s₃) E s₂) E ⟨h₁, gs, dr, t, os⟩ := by
 (refine exE2 hx.there fun ob tp zr5 => anE3 zr5 fun he hc hd => ?_; clear zr5)
 have base_get : ∀ b o, (keepOnly h fun b => !(((env :: outer).filterMap (·.frame)).contains b)).get? b = some o ↔ h.get? b = some o ∧ ¬ frs (env :: outer) b := fun b o => by
  rw [keepOnly_get]; unfold frs; simp
 generalize hbase : (keepOnly h fun b => !(((env :: outer).filterMap (·.frame)).contains b)) = base at base_get
 have base_none : ∀ b, frs (env :: outer) b → base.get? b = none := fun b fb => by
  cases q : base.get? b with
  | none => rfl
  | some o => exact absurd fb ((base_get b o).mp q).2
 have hen : base.get? e = none := by
  cases q : base.get? e with
  | none => rfl
  | some o => have := ((base_get e o).mp q).1; rw [hx.new] at this; cases this
 have noted : ∀ h', base.StaysIn h' → h₁.UpToSlots h' → Noted (env :: outer) h h' := fun h' k u => ⟨fun b o nb q => k b o ((base_get b o).mpr ⟨q, nb⟩), fun a m hn => u.ns (Ns_at hn fun o q => hx.keeps _ _ q)⟩
 have st₁ : base.StaysIn h₁ := fun b o q => hx.keeps b o ((base_get b o).mp q).1
 unfold noteFrame
 rw [hf]
 refine wpAny_bind (wpAny_field (s := ⟨h₁, gs, dr, t, os⟩) he hd (x := .none) rfl ?_)
 rw [if_neg (by decide)]
 refine wpAny_entryW (s := ⟨h₁, gs, dr, t, os⟩) (a0 := tp) (base := base) hfr (funFrames_of (frsOk_keeps hx.keeps hok) base_none) hf he st₁ hen hd (by show 1 < 6; decide) rfl fun h₂ zk => ?_
 obtain ⟨k1, k2, k3, k4⟩ := zk
 have u₂ : h₁.UpToSlots h₂ := k4
 rw [hc] at k3
 refine wpAny_landsW (base := base) (l := env :: outer) (cls := .type X) (a0 := tp) (L := L) ⟨k1, hen, k2, k3⟩ fun h₃ hfl₃ u₃ => ?_
 obtain ⟨ob₃, hob₃, hobc₃⟩ := hfl₃.there
 have n₃ := noted h₃ hfl₃.1 (u₂.trans u₃)
 refine wpAny_handleBy_builtin (X := X) (T := T) (b := true) hexc hnt hsub ?_
 refine wpAny_noRaise (hte h₃ t _ n₃ (anI3 rfl ⟨ob₃, hob₃, hobc₃⟩ ?_))
 refine lands_againW (s := ⟨h₃, gs, dr, t, os⟩) hfl₃ fun h₄ hfl₄ u₄ => ?_
 exact wpAny_noRaise (H h₄ t (noted h₄ hfl₄.1 ((u₂.trans u₃).trans u₄)))
end
end
section
open PySem PySem.W PyProof.Rows
structure Nd where
 x : Addr
 dx : Addr
 ar : Addr
 n : Int
 fin : Bool
 l : List (Nat × Int)
noncomputable abbrev Tup := List (Str × Int) × Bool
structure Bd where
 S : Option Int → Bool
 k : Nat
 xs : List (Tup × Addr × Value)
 tb : Tb
 ns : List Nd
noncomputable abbrev tupH (w : World) : HeapKind P w Tup := (tupK w).heapKind (Nat.le_of_ble_eq_true rfl)
noncomputable def NdE (w : World) (nd : Nd) : List Ent := [NodeD w nd.dx nd.n nd.ar nd.fin, ArcsE w nd.ar nd.l]
noncomputable def NdEs (w : World) (ns : List Nd) : List Ent := ns.flatMap (NdE w)
noncomputable def SeenE (w : World) (sn : Addr) (xs : List (Tup × Addr × Value)) : Ent := (sn, fun h => h.DictOfH (tupH w) sn xs)
noncomputable def rowOf (ns : List Nd) : List Value := (ns.map fun nd => .ref nd.x).reverse
noncomputable def RowE (N : Addr) (ns : List Nd) : Ent := (N, fun h => h.PlainList N (rowOf ns).toArray)
noncomputable def ownB (w : World) (F sn N T : Addr) (fo : List Ent) (b : Bd) : List Ent := fo ++ (FinE w F b.S b.k :: SeenE w sn b.xs :: RowE N b.ns :: NdEs w b.ns) ++ (TabE w T b.tb :: InnE w b.tb)
theorem seen_own {w : World} {F sn N T : Addr} {fo : List Ent} {b : Bd} : SeenE w sn b.xs ∈ ownB w F sn N T fo b := memL (memR mem1)
theorem row_own {w : World} {F sn N T : Addr} {fo : List Ent} {b : Bd} : RowE N b.ns ∈ ownB w F sn N T fo b := memL (memR mem2)
inductive SeenAre : List (Tup × Addr × Value) → List ((List (Nat × Int) × Bool) × Int) → Prop
 | nil : SeenAre [] []
 | cons {l f ad i t xs s} : SeenAre xs s → SeenAre (((arcsOf l, f), ad, .int i t) :: xs) (((l, f), i) :: s)
theorem arcsOf_inj {l l' : List (Nat × Int)} (h : arcsOf l = arcsOf l') : l = l' := by
 induction l generalizing l' with
 | nil => cases l' with
  | nil => rfl
  | cons _ _ => simp [arcsOf] at h
 | cons x l ih => cases l' with
  | nil => simp [arcsOf] at h
  | cons y l' =>
   simp only [arcsOf, List.map_cons, List.cons.injEq, Prod.mk.injEq] at h
   rw [ih h.2, Prod.ext (ch_inj h.1.1) h.1.2]
theorem SeenAre.find {xs s} (h : SeenAre xs s) (l : List (Nat × Int)) (f : Bool) : (∃ i ad t, s.lookup (l, f) = some i ∧ atKey xs (arcsOf l, f) = some (ad, .int i t)) ∨ (s.lookup (l, f) = none ∧ atKey xs (arcsOf l, f) = none) := by
 induction h with
 | nil => exact .inr ⟨rfl, rfl⟩
 | @cons l' f' ad i t xs s _ ih =>
  by_cases e : (l', f') = (l, f)
  ·cases e
   exact .inl (exI3 i ad t ⟨(by simp), (by simp [atKey])⟩)
  ·have e' : ¬ (arcsOf l', f') = (arcsOf l, f) := fun q => e (by
    have h1 := arcsOf_inj (Prod.mk.inj q).1
    rw [h1, (Prod.mk.inj q).2])
   have e2 : ((l, f) == (l', f')) = false := by rw [beq_eq_false_iff_ne]; exact fun q => e q.symm
   have h1 : (((l', f'), i) :: s).lookup (l, f) = s.lookup (l, f) := by rw [List.lookup_cons, e2]
   have h2 : atKey (((arcsOf l', f'), ad, .int i t) :: xs) (arcsOf l, f) = atKey xs (arcsOf l, f) := by
    unfold atKey
    rw [List.find?_cons, decide_eq_false e']
   rw [h1, h2]; exact ih
theorem SeenAre.push {xs s} (h : SeenAre xs s) (l : List (Nat × Int)) (f : Bool) (ad : Addr) (i : Int) (t : Tok) : SeenAre (xs ++ [((arcsOf l, f), ad, .int i t)]) (s ++ [((l, f), i)]) := by
 induction h with
 | nil => exact .cons .nil
 | cons _ ih => exact .cons ih
theorem SeenAre.length {xs s} (h : SeenAre xs s) : xs.length = s.length := by induction h <;> simp_all
structure Rep (b : Bd) (a : Ab) : Prop where
 fin : ∀ q, b.S q = true ↔ ∃ i ∈ a.fin, q = some i
 k : b.k ≤ a.fin.length
 seen : SeenAre b.xs a.seen
 tb : plainOf b.tb = a.tr
 ns : b.ns.map (fun nd => (⟨nd.n, nd.fin, nd.l⟩ : AN)) = a.ns
structure BdOk (w : World) (g : Heap) (b : Bd) : Prop where
 keys : ∀ x ∈ b.xs, (tupK w).is g x.1 (.ref x.2.1)
 inst : ∀ nd ∈ b.ns, g.get? nd.x = some (instObj 271 nd.dx) ∧ (nd.ar == sysModules) = false
theorem VK.keep {w : World} {T : Type} [DecidableEq T] (p : VK w T) {g h : Heap} (k : Keep g h) {x : T} {v : Value} (i : p.is g x v) : p.is h x v := p.keeps (fun b o _ _ _ e => k b o e) i
theorem BdOk.keeps {w : World} {g h : Heap} {b : Bd} (k : Keep g h) (x : BdOk w g b) : BdOk w h b := ⟨fun y m => (tupK w).keep k (x.keys y m), fun nd m => ⟨k _ _ (x.inst nd m).1, (x.inst nd m).2⟩⟩
section
variable {w : World} {A : Around} {E : Value → Shared → Prop} {h : Heap} {gs : Array GenState} {dr : Drawn} {t : Tok} {os : OsState}
theorem call_pop {N : Addr} {xs : List Value} {y : Value} {Q : Value → Shared → Prop} (hl : h.PlainList N (xs ++ [y]).toArray) (hz : xs.length < 16777216)
  (H : ∀ h', h'.PlainList N xs.toArray → Heap.SameBut N h h' → Q y ⟨h', gs, dr, t, os⟩) : wpAny (model P w) A (call (.builtin "list.pop") [.ref N]) Q E ⟨h, gs, dr, t, os⟩ := by
 obtain ⟨n, e⟩ := hl
 have hz' : (xs ++ [y]).toArray.size ≤ sizeLine := by simp [sizeLine_eq]; lia
 refine call_meets (s := ⟨h, gs, dr, t, os⟩) PySem.F.slot_list_pop ⟨_, e, rfl⟩ PySem.F.entry_list_pop (PySem.F.args_list_pop_1 _) (MeetsSeq.list_pop_last N (xs ++ [y]).toArray n y (by simp) hz') ⟨e, ?_⟩
 obtain ⟨n', e'⟩ : ∃ n', (h.update N (Obj.mapSeq fun ys => ys.eraseIdxIfInBounds ((xs ++ [y]).toArray.size - 1))).get? N = some (seqObj "list" ((xs ++ [y]).toArray.eraseIdxIfInBounds ((xs ++ [y]).toArray.size - 1)) n') := ⟨_, get?_update_seq e _⟩
 have ex : (xs ++ [y]).toArray.eraseIdxIfInBounds ((xs ++ [y]).toArray.size - 1) = xs.toArray := by
  apply Array.toList_inj.mp
  simp [List.eraseIdx_append_of_length_le]
 rw [ex] at e'
 exact H _ ⟨n', e'⟩ (Heap.SameBut.update ..)
end
end
section
open PySem PySem.W PyProof.Rows
structure FeedP (w : World) (A : Around) (env : Env) (I : Addr) (n : Nat) (g h₀ : Heap) (fe : List Ent) (St : Nat → Heap → Prop) (Pv : Nat → Value → Value → Prop) (h : Heap) : Prop where
 feed : ∀ x px y py k0 pt, env.kindOf x = some .local → env.kindOf y = some .local → Feed w A env (.Tuple [.Name x px, .Name y py] k0 pt) (.ref I) n g (fe.map (·.1)) St
  (fun i m m' => ∃ a b, Pv i a b ∧ m' = fun z => if z = y then some b else if z = x then some a else m z)
 new : ∀ b ∈ fe.map (·.1), h₀.get? b = none
 st : St 0 h
section
variable {w : World} {A : Around} {E : Value → Shared → Prop} {R : Result → Shared → Prop} {env : Env} {gs : Array GenState} {dr : Drawn} {os : OsState} {t : Tok}
 {V : Addr → Prop} {g₀ h₀ g h : Heap} {m : Str → Option Value} {ow : List Ent} {target : Expr} {body orelse : List Stmt}
theorem Feed.pm {target it n gq wr St} {Pm Pm' : Nat → (Str → Option Value) → (Str → Option Value) → Prop} (F : Feed w A env target it n gq wr St Pm) (f : ∀ i m m', Pm i m m' → Pm' i m m') : Feed w A env target it n gq wr St Pm' where
 frame := F.frame
 item := fun i Qe Qb E hi hn k C hw st H => F.item i Qe Qb E hi hn k C hw st fun h' m' t' fe' a b c d e => H h' m' t' fe' a b c d (f _ _ _ e)
 done := F.done
theorem forItems {KT : Type} [DecidableEq KT] {knd : PySem.KeyKind P w KT} {v d : Addr} {kvs : List (KT × Value)} (hh : A.handled = none) (C : Cur V g₀ h₀ env.locals g h m ow) (hv : h.IsItemsView v d) (hd : g.DictOf knd d kvs) (hsz : kvs.length ≤ 1000)
  (H : ∀ I h' fe St, Cur V g₀ h₀ env.locals g h' m (fe ++ ow) → FeedP w A env I kvs.length g h₀ fe St (fun i a b => ∃ k, kvs[i]? = some (k, b) ∧ knd.is k a = true) h' → codeAny (model P w) A (.forLoop target (.ref I) body orelse env) R ⟨h', gs, dr, t, os⟩)
  (hk : env.scope.kind = .function := by rfl) :
  wpAny (model P w) A (pyIter (.ref v)) (fun it s₂ => codeAny (model P w) A (.forLoop target it body orelse env) R s₂) E ⟨h, gs, dr, t, os⟩ := by
 obtain ⟨ep, hat⟩ := hd.dictAt
 have hat' : h.DictAt knd d kvs ep := hat.at fun o e => C.X.gh _ _ e
 refine wpAny_pyIter_items (s := ⟨h, gs, dr, t, os⟩) (knd := knd) hv hat' ?_
 obtain ⟨C', nw⟩ := C.alloc (o := { cls := .type "dict_itemiterator", data := .fields #[.none, .bool false, .ref d, .int 0 0, .int kvs.length 0, .int ep 0, .none, .none] }) (Pr := fun _ => True) rfl fun _ _ _ => trivial
 have hg : g.get? d ≠ none := by obtain ⟨o, _, q, _⟩ := hat; rw [q]; exact Option.some_ne_none _
 have hne : d ≠ h.objs.size := fun z => by
  obtain ⟨o, _, q, _⟩ := hat'
  rw [z, size_none] at q; cases q
 refine H h.objs.size _ [(h.objs.size, fun _ => True)] _ C' ⟨fun x px y py k0 pt hx hy => (Feed.pair hh (Pairs.items (knd := knd) hh _ d hne kvs ep) (fun b mb => ?_) (fun i h st b mb => ?_) (fun i vals hp => ?_) hk hx hy).pm ?_, fun b mb => ?_,
  ⟨⟨(exI2 _ _ (Heap.get?_push_size h rfl)), hat'.at fun o e => Heap.get?_push_of_some _ e⟩, C'.X.gh⟩⟩
 ·rcases List.mem_cons.mp mb with q | q
  ·exact .inl (List.mem_singleton.mpr q)
  ·rw [List.mem_singleton.mp q]; exact .inr hg
 ·obtain ⟨⟨_, _, q⟩, _⟩ := st
  rw [show b = _ from List.mem_singleton.mp mb, q]; exact Option.some_ne_none _
 ·(refine exE3 hp fun k v key zr2 => anE3 zr2 fun _ _ ze1 => ?_; clear hp zr2; subst ze1); rfl
 ·rintro i m m' ⟨a, b, ⟨k, v, key, e, hk, z⟩, rfl⟩
  simp only [Array.mk.injEq, List.cons.injEq, and_true] at z
  obtain ⟨rfl, rfl⟩ := z
  exact (exI2 _ _ ⟨⟨k, e, hk⟩, rfl⟩)
 ·rw [show b = _ from List.mem_singleton.mp mb]; exact nw
theorem lastItem {o : Expr} {kd : Nat} {p1 p2 pos : Pos} {N : Addr} {xs : List Value} {y : Value} {Q : Value → Shared → Prop} (hl : h.PlainList N (xs ++ [y]).toArray) (hz : xs.length < 1000000)
  (ho : ∀ Q', Q' (.ref N) ⟨h, gs, dr, t, os⟩ → wpAny (model P w) A (eval o env) Q' E ⟨h, gs, dr, t, os⟩) (H : ∀ t', Q y ⟨h, gs, dr, t', os⟩)
  (ht : ∀ o' r, letTemporaryGo o o' r = pure () := by intro _ _; rfl) :
  wpAny (model P w) A (eval (.Subscript o (.UnaryOp .USub (.Constant (.int 1) kd p1) p2) pos) env) Q E ⟨h, gs, dr, t, os⟩ := by
 refine Subscript_UnaryOp (ho _ (wpAny_UnaryOp (constI fun t' => PyProof.Rows.neg_int ?_))) ht
 refine ⟨"list", "list.__getitem__", list_getitem_lookup, hl.isList.typeIs, ?_⟩
 refine wpAny_getItem_list_neg (s := ⟨h, gs, dr, _, os⟩) hl.isList (by decide) (by simp; lia) (by decide) ?_ (H _)
 have : (-1 + ((xs ++ [y]).toArray.size : Int)).toNat = xs.length := by simp; lia
 rw [this]; simp
end
structure KF5 (K : Frag) : Prop extends KF4 K where
 fSfx : HasFn K 289 "add_suffix" "add_suffix" (fnOfSt (topSt 8)) .none (.ref 288)
 kSfx : keepIn K (.ref 289) = true
 gSfx : nsIn K mainGlobals "add_suffix" = some (some (.ref 289))
noncomputable def FrIn (outer : List Env) (fo : List Ent) : Prop := ∀ env ∈ outer, env.scope.kind ≠ .module ∧ ∃ L m, env.frame = some L ∧ (L, fun h : Heap => h.Ns L m) ∈ fo
structure SfxV (m : Str → Option Value) (d N sn : Addr) (lst : List Nat) (tl : Tok) (dt : Nat) (td : Tok) : Prop where
 dfa : m "dfa" = some (.ref d)
 nodes : m "nodes" = some (.ref N)
 last : m "last" = some (.str (st lst) tl)
 downto : m "downto" = some (.int dt td)
 seen : m "seen" = some (.ref sn)
theorem SfxV.up {m : Str → Option Value} {d N sn lst tl dt td} (V : SfxV m d N sn lst tl dt td) {x : Str} {v : Value} (hx : x ∉ (["dfa", "nodes", "last", "downto", "seen"] : List Str)) :
  SfxV (fun y => if y = x then some v else m y) d N sn lst tl dt td := by
 simp only [List.mem_cons, List.not_mem_nil, or_false, not_or] at hx
 exact ⟨(if_neg fun e => hx.1 e.symm).trans V.dfa, (if_neg fun e => hx.2.1 e.symm).trans V.nodes, (if_neg fun e => hx.2.2.1 e.symm).trans V.last, (if_neg fun e => hx.2.2.2.1 e.symm).trans V.downto, (if_neg fun e => hx.2.2.2.2 e.symm).trans V.seen⟩
section
variable {w : World} {A : Around} {E : Value → Shared → Prop} {K : Frag} {mg mb : Str → Option Value} {gs : Array GenState} {dr : Drawn} {os : OsState}
 {V : Addr → Prop} {g₀ h₀ : Heap} {L : Addr} {fo : List Ent} {F sn N T d dx Df U : Addr} {lst : List Nat} {tl td : Tok} {dt : Nat} {tk : Nat → Tok} {nn : Nat}
noncomputable abbrev eSfx (L : Addr) : Env := envOf "add_suffix" (fnOfSt (topSt 8)).scope L 289 (.ref 288)
noncomputable def sfxBody : List Stmt := bodyOf ((fnOfSt (topSt 8)).body.getD 0 (.Pass default))
theorem rowOf_cons (nd : Nd) (ns : List Nd) : rowOf (nd :: ns) = rowOf ns ++ [.ref nd.x] := by simp [rowOf]
theorem Own.right {g h : Heap} {l r : List Ent} (O : Own g h (l ++ r)) : Own g h r := by
 have nd := O.nd
 rw [List.map_append, List.nodup_append] at nd
 exact ⟨fun e m => O.at_ e (memR m), nd.2.1, fun e m => O.off e (memR m)⟩
theorem putK_len {α β} [DecidableEq α] (l : List (α × β)) (k : α) (v : β) : (putK l k v).length ≤ l.length + 1 := by
 unfold putK; split <;> simp
theorem addTr_len (tr : List (Int × List (Nat × Int))) (q : Int) (c : Nat) (i : Int) : (addTr tr q c i).length ≤ tr.length + 1 := by
 unfold addTr; split <;> simp
theorem addTr_inn {tr : List (Int × List (Nat × Int))} {q : Int} {c : Nat} {i : Int} {M : Nat} (h : ∀ x ∈ tr, x.2.length ≤ M) : ∀ x ∈ addTr tr q c i, x.2.length ≤ M + 1 := by
 unfold addTr
 intro x m
 split at m
 ·obtain ⟨y, my, rfl⟩ := List.mem_map.mp m
  have := h y my
  split
  ·exact Nat.le_trans (putK_len _ _ _) (Nat.succ_le_succ this)
  ·exact Nat.le_succ_of_le this
 ·rcases List.mem_append.mp m with m | m
  ·exact Nat.le_succ_of_le (h x m)
  ·rw [List.mem_singleton.mp m]; simp
theorem addAll_len (q : Int) : ∀ (l : List (Nat × Int)) (tr : List (Int × List (Nat × Int))), (addAll tr q l).length ≤ tr.length + l.length
 | [], _ => Nat.le_refl _
 | x :: l, tr => by
  have h1 := addAll_len q l (addTr tr q x.1 x.2)
  have h2 := addTr_len tr q x.1 x.2
  show (addAll (addTr tr q x.1 x.2) q l).length ≤ _
  simp only [List.length_cons]; lia
theorem addAll_inn (q : Int) : ∀ (l : List (Nat × Int)) (tr : List (Int × List (Nat × Int))) (M : Nat), (∀ x ∈ tr, x.2.length ≤ M) → ∀ x ∈ addAll tr q l, x.2.length ≤ M + l.length
 | [], _, _, h => h
 | x :: l, tr, M, h => by
  have := addAll_inn q l (addTr tr q x.1 x.2) (M + 1) (addTr_inn h)
  intro y my
  have := this y my
  simp only [List.length_cons]; lia
theorem addAll_snoc (tr : List (Int × List (Nat × Int))) (q : Int) (l : List (Nat × Int)) (x : Nat × Int) : addAll tr q (l ++ [x]) = addTr (addAll tr q l) q x.1 x.2 := by
 unfold addAll; rw [List.foldl_append]; rfl
section
variable {q : Str} {scope : Scope} {a : Addr} {cd : Value} {g h : Heap} {t : Tok} {m : Str → Option Value} {ow : List Ent}
theorem meth3_ {x name qual : Str} {xp apos pos : Pos} {e e' e'' : Expr} {d C dx f fc : Addr} {st : Stmt} {dV : Value} {es n} {Q : Value → Shared → Prop}
  (c : Cur V g₀ h₀ L g h m ow) (X : K.In g) (hv : m x = some (.ref d)) (I : Inst g d C dx es n) (M : Meth K C name qual f fc st dV) (hl : getL name es = some none)
  (H : wpAny (model P w) A (eval e (envOf q scope L a cd)) (fun v s₁ => wpAny (model P w) A (eval e' (envOf q scope L a cd)) (fun v' s₂ => wpAny (model P w) A (eval e'' (envOf q scope L a cd)) (fun v'' s₃ => K.In s₃.heap ∧ codeAny (model P w) A (.call (.ref f) ⟨[.ref d, v, v', v''], []⟩) (back Q E) s₃) E s₂) E s₁) E ⟨h, gs, dr, t, os⟩)
  (hk : scope.kind = .function := by rfl) (hx : (envOf q scope L a cd).kindOf x = some .local := by rfl) (hd : (x == ("__debug__" : Str)) = false := by decide)
  (h1 : starEach [e, e', e''] (envOf q scope L a cd) = (false, eval e (envOf q scope L a cd)) :: starEach [e', e''] (envOf q scope L a cd) := by rfl)
  (h2 : starEach [e', e''] (envOf q scope L a cd) = (false, eval e' (envOf q scope L a cd)) :: starEach [e''] (envOf q scope L a cd) := by rfl)
  (h3 : starEach [e''] (envOf q scope L a cd) = (false, eval e'' (envOf q scope L a cd)) :: starEach [] (envOf q scope L a cd) := by rfl)
  (he : eval (.Call (.Attribute (.Name x xp) name apos) [e, e', e''] [] pos) (envOf q scope L a cd) = (do
   let ov ← eval (.Name x xp) (envOf q scope L a cd)
   standAt apos.atName
   let (f, first) ← holding [ov] (getMethod ov name (do return (← importBound (.Name x xp) (envOf q scope L a cd)).getD true))
   callWith pos f first (backTo pos (starEach [e, e', e''] (envOf q scope L a cd))) (backToKw pos (keywordEach [] (envOf q scope L a cd)))) := by with_unfolding_all rfl) :
  wpAny (model P w) A (eval (.Call (.Attribute (.Name x xp) name apos) [e, e', e''] [] pos) (envOf q scope L a cd)) Q E ⟨h, gs, dr, t, os⟩ :=
 meth_ c X hv I M hl (callWith_K (h₀ := g) X M.kp (wpAny_items_cons (wpAny_mono H (fun v s₁ h₁ => wpAny_items_cons (wpAny_mono h₁ (fun v' s₂ h₂ => wpAny_items_cons (wpAny_mono h₂ (fun v'' s₃ h₃ => wpAny_items_nil ⟨h₃.1, wpAny_call h₃.2⟩) fun _ _ x => x) h3) fun _ _ x => x) h2) fun _ _ x => x) h1) h1 (by rw [h2, h3]; rfl)) hk hx hd he
end
theorem sfx_arcs (kf : KF5 K) (B : Base w K mg mb g₀) (hroom : A.depth < recursionLimit) (hh : A.handled = none) {g h : Heap} {t : Tok} {m : Str → Option Value} (I : Inst g d 245 dx (dfaEs w tk T Df F U) nn) (hsT : (T == sysModules) = false)
  {b : Bd} (C : Cur V g₀ h₀ L g h m (ownB w F sn N T fo b)) (hV : SfxV m d N sn lst tl dt td) {nd : Nd} {this : Int} {tt : Tok} (hn : m "node" = some (.ref nd.x)) (ht : m "this" = some (.int this tt)) (NA : NodeAt w g nd.x nd.dx nd.ar nd.n nd.fin nd.l)
  (h64 : nd.l.length < 64) (hz : b.tb.length ≤ 800) (hz' : ∀ x ∈ b.tb, x.2.2.length ≤ 800) {Q : Flow → Shared → Prop}
  (H : ∀ g' h' t' m' tb', Keep g g' → Cur V g₀ h₀ L g' h' m' (ownB w F sn N T fo { b with tb := tb' }) → SfxV m' d N sn lst tl dt td → plainOf tb' = addAll (plainOf b.tb) this nd.l → Q .next ⟨h', gs, dr, t', os⟩) :
  wpAny (model P w) A (execs [sfxBody.getD 3 (.Pass default)] (eSfx L)) Q E ⟨h, gs, dr, t, os⟩ := by
 refine exE2 NA.dict fun tdn tn hdx => ?_
 have IN : Inst g nd.x 271 nd.dx (nodeEs w tdn nd.n tn nd.ar nd.fin) 3 := ⟨NA.inst, hdx⟩
 have pa := kf.pgN "arcs" (by decide)
 obtain ⟨kvs, hd, ha⟩ := NA.arcs
 have B' := B.keeps C.X.gg
 refine wpAny_noRaise (wpAny_execs_cons (wpAny_For (bmeth0_ (attrN C hn (attr_own C.X.gh B'.X IN pa.1 kf.hhN pa.2 (by rfl) rfl fun t₂ => ?_)))))
 have hd₁ := hd.keep C.X.gh
 refine (exI2 ("dict") ("dict.items") (anI6 PySem.F.plainAttrs_dict PySem.F.slot_dict_items PySem.F.type_dict_items hd₁.typeIs hd₁.mapOf.noDict ?_))
 refine call_meetsIn (s := ⟨h, gs, dr, t₂, os⟩) PySem.F.slot_dict_items hd₁.typeIs PySem.F.entry_dict_items (PySem.F.args_dict_items_1 _) (meets_dict_items (SK w) nd.ar NA.sys) ⟨⟨kvs, hd₁⟩, ?_⟩
 have kp := Keep.push h { cls := .type "dict_items", data := .fields #[.ref nd.ar] }
 (refine Exists.elim (C.kept kp) fun g₂ zr3 => anE3 zr3 fun C₂ kg₂ _ => ?_; clear zr3)
 have hv : (h.push { cls := .type "dict_items", data := .fields #[.ref nd.ar] }).IsItemsView h.objs.size nd.ar := ⟨_, Heap.get?_push_size _ rfl, rfl, rfl⟩
 have hlen : kvs.length = nd.l.length := ha.length
 refine forItems (knd := SK w) hh C₂ hv (hd.keep kg₂) (by lia) fun it h₃ fe St C₃ FP => ?_
 refine forLoop (FP.feed "label" _ "dest" _ _ _ (by rfl) (by rfl)) (fun i g' m' ow => ∃ tb', ow = ownB w F sn N T fo { b with tb := tb' } ∧ SfxV m' d N sn lst tl dt td ∧ m' "this" = some (.int this tt) ∧ plainOf tb' = addAll (plainOf b.tb) this (nd.l.take i)) C₃ rfl FP.new FP.st
  ⟨b.tb, (anI4 rfl hV ht (by simp [addAll]))⟩ (fun i g₅ h₅ m₁ m₅ ow fe₅ t₅ hi k₅ hj hp C₅ => ?_) (fun g₅ h₅ m₅ ow t₅ k₅ hj C₅ => ?_)
 ·refine opaqueQ fun Qb Eb hQb _ => ?_
  (refine Exists.elim hj fun tb' zr5 => anE4 zr5 fun ze4 V₁ ht₁ hpl => ?_; clear hj zr5; subst ze4)
  (refine exE2 hp fun lab dst zr8 => anE2 zr8 fun zo6 ze7 => ?_; clear hp zr8; obtain ⟨k, hki, hkk⟩ := zo6; subst ze7)
  have zh9 : ∃ c j u, kvs[i]? = some (ch c, .int j u) ∧ nd.l[i]? = some (c, j) := by
   rcases ha.get i with zc | ⟨e1, _⟩
   ·(refine exE3 zc fun c j u zr1 => anE2 zr1 fun e1 e2 => ?_; clear zc zr1)
    exact (exI3 c j u ⟨e1, e2⟩)
   ·rw [e1] at hki; cases hki
  refine exE3 zh9 fun c j u zr10 => anE2 zr10 fun e1 e2 => ?_
  clear zh9 zr10
  rw [hki] at e1; cases e1
  obtain ⟨tc, rfl⟩ := Value.isStrOf_shape hkk
  have kg₅ := kg₂.trans k₅
  have V₅ := (V₁.up (x := "label") (v := .str (ch c) tc) (by decide)).up (x := "dest") (v := .int j u) (by decide)
  have C₅' : Cur V g₀ h₀ L g₅ h₅ _ ((fe₅ ++ (fo ++ (FinE w F b.S b.k :: SeenE w sn b.xs :: RowE N b.ns :: NdEs w b.ns))) ++ (TabE w T tb' :: InnE w tb')) := C₅.eq (by simp [ownB])
  have hdT : h₅.DictOf (IK w) T (kvsOf tb') := C₅'.get _ (memR mem0)
  have nodup : (tb'.map (·.1)).Nodup := by
   obtain ⟨_, _, _, _, _, _, _, _, z⟩ := hdT
   have : (kvsOf tb').map (·.1) = tb'.map (·.1) := by simp [kvsOf]
   rwa [this] at z
  have hlt : (nd.l.take i).length ≤ nd.l.length := by simp; lia
  have len₁ : tb'.length ≤ 1000 := by
   have h1 := addAll_len this (nd.l.take i) (plainOf b.tb)
   rw [← hpl] at h1
   simp only [plainOf, List.length_map] at h1
   lia
  have len₂ : ∀ x ∈ tb', x.2.2.length ≤ 1000 := fun x mx => by
   have h1 := addAll_inn this (nd.l.take i) (plainOf b.tb) 800 (fun y my => by
    obtain ⟨z, mz, rfl⟩ := List.mem_map.mp my
    exact hz' z mz) (x.1, x.2.2) (by rw [← hpl]; exact List.mem_map_of_mem (f := fun x : Int × Addr × List (Nat × Int) => (x.1, x.2.2)) mx)
   have h1' : x.2.2.length ≤ 800 + (nd.l.take i).length := h1
   lia
  refine wpAny_execs_cons (wpAny_Expr (meth3_ C₅ (B'.keeps kg₅).X V₅.dfa (I.keeps kg₅) kf.mAdd (by rfl) (nameL C₅ (oth (oth ht₁)) (nameL C₅ (oth sam) (nameL C₅ sam ⟨(B'.keeps kg₅).X.keeps C₅.X.gh, ?_⟩)))))
  refine add_transition_spec (F := F) (Df := Df) (U := U) kf.toKF3 C₅.X.gh (B'.keeps kg₅) hroom (I.keeps kg₅) hsT C₅'.O.right len₁ len₂ nodup fun g₆ h₆ t₆ tb₆ x₆ O₆ n₆ p₆ => ?_
  have C₆ := C₅'.call x₆ (fun _ v => v) O₆ n₆
  refine wpAny_execs_nil (hQb _ _ ⟨g₆, h₆, _, _, t₆, rfl, x₆.gg, C₆.eq (ow' := fe₅ ++ ownB w F sn N T fo { b with tb := tb₆ }) (by simp [ownB]), tb₆, rfl, V₅, oth (oth ht₁), ?_⟩)
  rw [p₆, hpl, List.take_add_one, e2, Option.toList_some, addAll_snoc]
 ·refine opaqueQ fun Qf Ef hQf _ => ?_
  (refine Exists.elim hj fun tb' zr12 => anE4 zr12 fun ze11 V₁ ht₁ hpl => ?_; clear hj zr12; subst ze11)
  rw [hlen, List.take_length] at hpl
  exact wpAny_execs_nil (hQf _ _ (wpAny_execs_nil (H g₅ h₅ t₅ m₅ tb' (kg₂.trans k₅) C₅ V₁ hpl)))
end
end
section
open PySem PySem.W PyProof.Rows
theorem nodup_inj : ∀ {l : List Ent}, (l.map (·.1)).Nodup → ∀ e ∈ l, ∀ e' ∈ l, e.1 = e'.1 → e = e'
 | [], _ => fun _ m => absurd m List.not_mem_nil
 | x :: l, nd => by
  rw [List.map_cons, List.nodup_cons] at nd
  intro e me e' me' q
  rcases List.mem_cons.mp me with z | me
  ·rcases List.mem_cons.mp me' with z' | me'
   ·rw [z, z']
   ·have := List.mem_map_of_mem (f := fun x : Ent => x.1) me'
    rw [z] at q
    rw [← q] at this
    exact absurd this nd.1
  ·rcases List.mem_cons.mp me' with z' | me'
   ·have := List.mem_map_of_mem (f := fun x : Ent => x.1) me
    rw [z'] at q
    rw [q] at this
    exact absurd this nd.1
   ·exact nodup_inj nd.2 e me e' me' q
theorem Cur.noted {V : Addr → Prop} {g₀ h₀ : Heap} {L : Addr} {g h h' : Heap} {m} {ow : List Ent} (C : Cur V g₀ h₀ L g h m ow) {env : Env} {outer : List Env} (hf : env.frame = some L) (FO : FrIn outer ow) (n : Noted (env :: outer) h h') :
  Cur V g₀ h₀ L g h' m ow := by
 have ent : ∀ b, frs (env :: outer) b → b = L ∨ ∃ m', (b, fun h : Heap => h.Ns b m') ∈ ow := fun b hb => by
  unfold frs at hb
  rw [List.filterMap_cons, hf] at hb
  rcases List.mem_cons.mp hb with q | q
  ·exact .inl q
  ·obtain ⟨env', me, e'⟩ := List.mem_filterMap.mp q
   (refine anE2 (FO env' me) fun _ zr1 => exE2 zr1 fun L' m' zr2 => anE2 zr2 fun e'' mm => ?_; clear zr2 zr1)
   rw [e'] at e''; cases e''
   exact .inr ⟨m', mm⟩
 have same := nodup_inj C.O.nd
 have live : ∀ b, h.get? b ≠ none → h'.get? b ≠ none := fun b e => by
  by_cases z : frs (env :: outer) b
  ·rcases ent b z with q | ⟨m', mm⟩
   ·rw [q]; exact Ns_some (n.ns L m C.F.ns)
   ·exact Ns_some (n.ns b m' (C.get _ mm))
  ·cases q : h.get? b with
   | none => exact absurd q e
   | some o => rw [n.keep b o z q]; exact Option.some_ne_none _
 have gF : ∀ b o, g.get? b = some o → ¬ frs (env :: outer) b := fun b o e z => by
  rcases ent b z with q | ⟨m', mm⟩
  ·rw [q, C.F.off] at e; cases e
  ·have := C.O.off _ mm; rw [this] at e; cases e
 refine ⟨⟨C.X.gg, fun b o e => n.keep b o (gF b o e) (C.X.gh b o e), fun b o nv e => ?_, fun b e => live b (C.X.live b e), C.X.fresh⟩, ⟨n.ns L m C.F.ns, C.F.off⟩, C.new, ⟨fun e me => ?_, C.O.nd, C.O.off⟩, C.nL, C.vis⟩
 ·refine n.keep b o (fun z => ?_) (C.X.old b o nv e)
  rcases ent b z with q | ⟨m', mm⟩
  ·rw [q, C.new] at e; cases e
  ·rcases C.vis _ mm with q | q
   ·exact nv q
   ·rw [show ((b, fun h : Heap => h.Ns b m') : Ent).1 = b from rfl] at q; rw [q] at e; cases e
 ·by_cases z : frs (env :: outer) e.1
  ·rcases ent e.1 z with q | ⟨m', mm⟩
   ·exact absurd q (C.nL e me)
   ·have := same e me _ mm rfl
    rw [this]
    obtain ⟨o, es, ep, ho, r⟩ := n.ns e.1 m' (C.get _ mm)
    exact ⟨o, ho, fun h'' _ e'' => ⟨o, es, ep, e'', r⟩⟩
  ·obtain ⟨o, q, r⟩ := C.O.at_ e me
   exact ⟨o, n.keep _ _ z q, r⟩
theorem FrIn.mono {outer : List Env} {fo fo' : List Ent} (x : FrIn outer fo) (s : ∀ e ∈ fo, e ∈ fo') : FrIn outer fo' := fun env me => by obtain ⟨k, L, m, e, mm⟩ := x env me; exact ⟨k, L, m, e, s _ mm⟩
theorem Cur.frsOk {V : Addr → Prop} {g₀ h₀ : Heap} {L : Addr} {g h : Heap} {m} {ow : List Ent} (C : Cur V g₀ h₀ L g h m ow) {env : Env} {outer : List Env} (hk : env.scope.kind ≠ .module) (hf : env.frame = some L) (FO : FrIn outer ow) : FrsOk h (env :: outer) := fun env' me => by
 rcases List.mem_cons.mp me with rfl | me
 ·exact ⟨hk, (exI2 L m ⟨hf, C.F.ns⟩)⟩
 ·(refine anE2 (FO env' me) fun k zr3 => exE2 zr3 fun L' m' zr4 => anE2 zr4 fun e mm => ?_; clear zr4 zr3)
  exact ⟨k, (exI2 L' m' ⟨e, (C.get _ mm)⟩)⟩
section
variable {w : World} {A : Around} {E : Value → Shared → Prop} {K : Frag} {g h : Heap} {gs : Array GenState} {dr : Drawn} {t : Tok} {os : OsState}
theorem attr_ownH {x C dx : Addr} {es n} {name : Str} {v : Value} {expr : Bool} {Q : Value → Shared → Prop} (gh : Keep g h) (X : K.In g) (I : Inst h x C dx es n)
  (hg : plainGet K C name = true) (hh : hasDictIn K C = true) (ha : findIn K (.ref C) name = some none) (hl : getL name es = some (some v)) (hv : handedIn v = true)
  (H : ∀ t', Q v ⟨h, gs, dr, t', os⟩) : wpAny (model P w) A (getAttr (.ref x) name expr) Q E ⟨h, gs, dr, t, os⟩ :=
 get_value (s := ⟨h, gs, dr, t, os⟩) (X.keeps gh) I.instAt (plainGet_of hg).1 (findObj_own hh ha rfl hl) hv (H _)
end
theorem sub_KeyError : isSubtype (.type "KeyError") (.type "KeyError") = pure true := by rw [isSubtype_type]; kernel_rfl
theorem exc_KeyError : isSubtype (.type "KeyError") (.type "BaseException") = pure true := by rw [isSubtype_type]; kernel_rfl
theorem nt_KeyError : isSubtype (.type ((Manifest.find? "KeyError").elim "type" fun x => x.metatype)) (.type "tuple") = pure false := by rw [isSubtype_type]; kernel_rfl
section
variable {w : World} {A : Around} {E : Value → Shared → Prop} {K : Frag} {mg mb : Str → Option Value} {gs : Array GenState} {dr : Drawn} {os : OsState}
 {V : Addr → Prop} {g₀ h₀ : Heap} {L : Addr} {fo : List Ent} {F sn N T d dx Df U : Addr} {lst : List Nat} {tl td : Tok} {dt : Nat} {tk : Nat → Tok} {nn : Nat} {outer : List Env}
theorem sfx_new (kf : KF5 K) (B : Base w K mg mb g₀) (hroom : A.depth + 1 < recursionLimit) (hu : A.units + 30 < cLine) (hh : A.handled = none) (hfr : A.frames = some outer) (FO : FrIn outer fo)
  {g h : Heap} {t : Tok} {m : Str → Option Value} (I : Inst g d 245 dx (dfaEs w tk T Df F U) nn) (hsS : (sn == sysModules) = false)
  {b : Bd} {a : Ab} (C : Cur V g₀ h₀ L g h m (ownB w F sn N T fo b)) (hV : SfxV m d N sn lst tl dt td) (OK : BdOk w g b) (RP : Rep b a) {nd : Nd} {tt : Addr} (hn : m "node" = some (.ref nd.x)) (ht : m "tup" = some (.ref tt)) (NA : NodeAt w g nd.x nd.dx nd.ar nd.n nd.fin nd.l)
  (hkey : (tupK w).is g (arcsOf nd.l, nd.fin) (.ref tt)) (hz : b.k ≤ 800) (hz' : b.xs.length ≤ 800) (hno : a.seen.lookup (nd.l, nd.fin) = none) {Q : Flow → Shared → Prop} {rest : List Stmt}
  (H : ∀ g' h' t' m' b' tt', Keep g g' → Cur V g₀ h₀ L g' h' m' (ownB w F sn N T fo b') → SfxV m' d N sn lst tl dt td → BdOk w g' b' → Rep b' { a with fin := if nd.fin then a.fin ++ [nd.n] else a.fin, seen := a.seen ++ [((nd.l, nd.fin), nd.n)] } →
   m' "node" = some (.ref nd.x) → m' "this" = some (.int nd.n tt') → b'.tb = b.tb → wpAny (model P w) (A.deeper (eSfx L)) (execs rest (eSfx L)) Q E ⟨h', gs, dr, t', os⟩) :
  wpAny (model P w) (A.deeper (eSfx L)) (execs (sfxBody.getD 2 (.Pass default) :: rest) (eSfx L)) Q E ⟨h, gs, dr, t, os⟩ := by
 have B' := B.keeps C.X.gg
 refine exE2 NA.dict fun tdn tn hdx => ?_
 have IN : Inst g nd.x 271 nd.dx (nodeEs w tdn nd.n tn nd.ar nd.fin) 3 := ⟨NA.inst, hdx⟩
 have hm : h.DictOfH (tupH w) sn b.xs := C.get (SeenE w sn b.xs) (by simp [ownB])
 have hat : atKey b.xs (arcsOf nd.l, nd.fin) = none := by
  rcases RP.seen.find nd.l nd.fin with zc | ⟨_, e⟩
  ·(refine exE3 zc fun i ad t zr1 => anE2 zr1 fun e _ => ?_; clear zc zr1)
   rw [hno] at e; cases e
  ·exact e
 refine wpAny_execs_cons (wpAny_noRaise (wpAny_Try_except (wpAny_execs_cons (assignL (wpAny_Subscript_Name_late (nameL C hV.seen (nameL C ht ⟨"dict", "dict.__getitem__", slot_dict_getitem.lookup, hm.typeIs, ?_⟩)))))))
 refine wpAny_getItem_missing_heap (s := ⟨h, gs, dr, t, os⟩) (knd := tupH w) (k := (arcsOf nd.l, nd.fin)) ?_ ((tupK w).keep C.X.gh hkey) hsS hh hm hat fun h₁ e hx => ?_
 ·show A.units + 3 + 1 + 3 < cLine
  omega
 have FO' : FrIn outer (ownB w F sn N T fo b) := FO.mono fun e me => memL (memL me)
 refine caught_new (L := L) (outer := outer) (Around.frames_deeper hfr) rfl (C.frsOk (by show (fnOfSt (topSt 8)).scope.kind ≠ .module; decide) rfl FO') hx exc_KeyError nt_KeyError sub_KeyError (fun h' t' Q' n hq => ?_) fun h₂ t₂ n => ?_
 ·exact nameB (C.noted rfl FO' n).X.gh B' (kf.bn "KeyError" (by decide)) bt_KeyError (by decide) hq
 have C₂ := C.noted rfl FO' n
 have pn := kf.pgN "n" (by decide)
 have pf := kf.pgN "final" (by decide)
 refine wpAny_execs_cons (assignL (attrN C₂ hn (attr_own C₂.X.gh B'.X IN pn.1 kf.hhN pn.2 (by rfl) rfl fun t₃ => ?_)))
 refine storeL C₂ fun h₃ t₄ C₃ _ => ?_
 have V₃ := hV.up (x := "this") (v := .int nd.n tn) (by decide)
 have last : ∀ p1 p2 p3 p4 p5 S k h₄ t₄', Cur V g₀ h₀ L g h₄ (fun y => if y = "this" then some (.int nd.n tn) else m y) (ownB w F sn N T fo { b with S := S, k := k }) →
   (∀ q, S q = true ↔ ∃ i ∈ (if nd.fin then a.fin ++ [nd.n] else a.fin), q = some i) → k ≤ (if nd.fin then a.fin ++ [nd.n] else a.fin).length →
   ∀ E', wpAny (model P w) ((A.deeper (eSfx L)).mark (some (.ref e))) (exec (.Assign [.Subscript (.Name "seen" p1) (.Name "tup" p2) p3] (.Name "this" p4) p5) (eSfx L))
    (fun f s' => match f with | .next => wpAny (model P w) (A.deeper (eSfx L)) (execs rest (eSfx L)) Q E s' | _ => False) E' ⟨h₄, gs, dr, t₄', os⟩ := by
  intro p1 p2 p3 p4 p5 S k h₄ t₄' C₄ hS hk E'
  have hm₄ : h₄.DictOfH (tupH w) sn b.xs := C₄.get (SeenE w sn b.xs) (by simp [ownB])
  refine wpAny_Assign_Subscript (nameL C₄ sam (nameL C₄ V₃.seen (nameL C₄ (oth ht) ?_)))
  refine wpAny_setItem_heap (s := ⟨h₄, gs, dr, t₄', os⟩) (knd := tupH w) (k := (arcsOf nd.l, nd.fin)) ?_ ((tupK w).keep C₄.X.gh hkey) hm₄ (fun h₅ hm₅ hs₅ => ?_) (Nat.le_trans hz' (by decide))
  ·show A.units + 3 + 1 + 3 < cLine
   omega
  rw [storedH_new hat] at hm₅
  have C₄' := C₄.eq (ow' := (fo ++ [FinE w F S k]) ++ SeenE w sn b.xs :: (RowE N b.ns :: NdEs w b.ns ++ (TabE w T b.tb :: InnE w b.tb))) (by simp [ownB])
  have OK₅ : BdOk w g { b with S := S, k := k, xs := b.xs ++ [((arcsOf nd.l, nd.fin), tt, .int nd.n tn)] } := ⟨fun x mx => by
   rcases List.mem_append.mp mx with mx | mx
   ·exact OK.keys x mx
   ·rw [List.mem_singleton.mp mx]; exact hkey, OK.inst⟩
  have C₅ := C₄'.upd (Pr' := fun h => h.DictOfH (tupH w) sn (b.xs ++ [((arcsOf nd.l, nd.fin), tt, .int nd.n tn)])) hs₅ (by
   obtain ⟨o, es, ep, ho, hc, hd, he, hk, hn⟩ := hm₅
   exact ⟨o, ho, fun h'' k'' e'' => ⟨o, es, ep, e'', hc, hd, he, fun x mx => (tupK w).keep k'' (OK₅.keys x mx), hn⟩⟩)
  refine H g h₅ _ _ { b with S := S, k := k, xs := b.xs ++ [((arcsOf nd.l, nd.fin), tt, .int nd.n tn)] } tn (Keep.refl _) (C₅.eq (by simp [ownB, SeenE])) V₃ OK₅ ⟨hS, hk, RP.seen.push _ _ _ _ _, RP.tb, RP.ns⟩ (oth hn) sam rfl
 refine wpAny_execs_cons (wpAny_If (isTrue_plain (attrN C₃ (oth hn) (attr_own C₃.X.gh B'.X IN pf.1 kf.hhN pf.2 (by rfl) rfl fun t₅ => wpAny_truthy_bool ?_))))
 cases hfin : nd.fin with
 | false =>
  refine wpAny_execs_nil (wpAny_execs_cons (wpAny_mono (last _ _ _ _ _ b.S b.k h₃ _ C₃ (by rw [hfin]; exact RP.fin) (by rw [hfin]; exact RP.k) _) (fun f s' hf => ?_) fun _ _ x => x))
  cases f with
  | next => exact wpAny_execs_nil hf
  | _ => exact hf.elim
 | true =>
  have perm : (ownB w F sn N T fo b).Perm ((fo ++ (SeenE w sn b.xs :: RowE N b.ns :: NdEs w b.ns) ++ (TabE w T b.tb :: InnE w b.tb)) ++ [FinE w F b.S b.k]) := by
   have e1 : ownB w F sn N T fo b = fo ++ ([FinE w F b.S b.k] ++ ((SeenE w sn b.xs :: RowE N b.ns :: NdEs w b.ns) ++ (TabE w T b.tb :: InnE w b.tb))) := by simp [ownB]
   rw [e1, List.append_assoc fo, List.append_assoc fo]
   exact List.perm_append_comm.append_left fo
  have C₃' := C₃.perm perm
  refine wpAny_execs_cons (wpAny_Expr (meth1_ C₃ B'.X V₃.dfa I kf.mAddF (by rfl) (nameL C₃ sam ⟨B'.X.keeps C₃.X.gh, ?_⟩)))
  refine add_final_spec (Df := Df) (T := T) (U := U) kf.toKF3 C₃.X.gh B' hroom I C₃'.O.right (by omega) fun h₆ t₆ x₆ O₆ => ?_
  have C₆ := C₃'.call x₆ (fun _ v => v) O₆ fun e me => .inl (by rw [List.mem_singleton.mp me]; exact ⟨_, List.mem_singleton.mpr rfl, rfl⟩)
  have perm' : ((fo ++ (SeenE w sn b.xs :: RowE N b.ns :: NdEs w b.ns) ++ (TabE w T b.tb :: InnE w b.tb)) ++ [FinE w F (fun k' => b.S k' || decide (k' = some nd.n)) (if b.S (some nd.n) then b.k else b.k + 1)]).Perm
    (ownB w F sn N T fo { b with S := fun k' => b.S k' || decide (k' = some nd.n), k := if b.S (some nd.n) then b.k else b.k + 1 }) := by
   have e1 : ∀ S k, ownB w F sn N T fo { b with S := S, k := k } = fo ++ ([FinE w F S k] ++ ((SeenE w sn b.xs :: RowE N b.ns :: NdEs w b.ns) ++ (TabE w T b.tb :: InnE w b.tb))) := fun S k => by simp [ownB]
   rw [e1, List.append_assoc fo, List.append_assoc fo]
   exact List.perm_append_comm.append_left fo
  have C₇ := C₆.perm perm'
  refine wpAny_execs_nil (wpAny_execs_cons (wpAny_mono (last _ _ _ _ _ _ _ h₆ _ C₇ (fun q => ?_) ?_ _) (fun f s' hf => ?_) fun _ _ x => x))
  ·rw [if_pos hfin, Bool.or_eq_true, RP.fin q, decide_eq_true_iff]
   simp only [List.mem_append, List.mem_singleton]
   constructor
   ·rintro (⟨i, mi, e⟩ | e)
    ·exact ⟨i, .inl mi, e⟩
    ·exact ⟨nd.n, .inr rfl, e⟩
   ·rintro ⟨i, mi | rfl, e⟩
    ·exact .inl ⟨i, mi, e⟩
    ·exact .inr e
  ·rw [if_pos hfin, List.length_append]
   have := RP.k
   split <;> simp <;> omega
  ·cases f with
   | next => exact wpAny_execs_nil hf
   | _ => exact hf.elim
end
end
section
open PySem PySem.W PyProof.Rows
section
variable {w : World} {A : Around} {E : Value → Shared → Prop} {K : Frag} {mg mb : Str → Option Value} {gs : Array GenState} {dr : Drawn} {os : OsState}
 {V : Addr → Prop} {g₀ h₀ : Heap} {L : Addr} {fo : List Ent} {F sn N T d dx Df U : Addr} {lst : List Nat} {tl td : Tok} {dt : Nat} {tk : Nat → Tok} {nn : Nat} {outer : List Env}
theorem sfx_seen (kf : KF5 K) (B : Base w K mg mb g₀) (hu : A.units + 30 < cLine)
  {g h : Heap} {t : Tok} {m : Str → Option Value}
  {b : Bd} {a : Ab} (C : Cur V g₀ h₀ L g h m (ownB w F sn N T fo b)) (hV : SfxV m d N sn lst tl dt td) (OK : BdOk w g b) (RP : Rep b a) {nd p : Nd} {r : List Nd} {tt : Addr} (hn : m "node" = some (.ref nd.x)) (ht : m "tup" = some (.ref tt))
  (hkey : (tupK w).is g (arcsOf nd.l, nd.fin) (.ref tt)) (hns : b.ns = p :: r) (hz : r.length ≤ 800) (hz' : p.l.length ≤ 800) {this : Int} (hyes : a.seen.lookup (nd.l, nd.fin) = some this) {c : Nat} (hc : lst[r.length]? = some c) {Q : Flow → Shared → Prop} {rest : List Stmt}
  (H : ∀ g' h' t' m' b' tt', Keep g g' → Cur V g₀ h₀ L g' h' m' (ownB w F sn N T fo b') → SfxV m' d N sn lst tl dt td → BdOk w g' b' → Rep b' { a with ns := { n := p.n, fin := p.fin, l := putK p.l c this } :: r.map (fun nd => (⟨nd.n, nd.fin, nd.l⟩ : AN)) } →
   m' "node" = some (.ref nd.x) → m' "this" = some (.int this tt') → b'.tb = b.tb → wpAny (model P w) (A.deeper (eSfx L)) (execs rest (eSfx L)) Q E ⟨h', gs, dr, t', os⟩) :
  wpAny (model P w) (A.deeper (eSfx L)) (execs (sfxBody.getD 2 (.Pass default) :: rest) (eSfx L)) Q E ⟨h, gs, dr, t, os⟩ := by
 have B' := B.keeps C.X.gg
 have hm : h.DictOfH (tupH w) sn b.xs := C.get (SeenE w sn b.xs) seen_own
 have zh1 : ∃ ad tv, atKey b.xs (arcsOf nd.l, nd.fin) = some (ad, .int this tv) := by
  rcases RP.seen.find nd.l nd.fin with zc | ⟨e, _⟩
  ·(refine exE3 zc fun i ad t zr1 => anE2 zr1 fun e e' => ?_; clear zc zr1)
   rw [hyes] at e; cases e; exact (exI2 ad t e')
  ·rw [hyes] at e; cases e
 refine exE2 zh1 fun ad tv hat => ?_
 clear zh1
 refine wpAny_execs_cons (wpAny_noRaise (wpAny_Try_except (wpAny_execs_cons (assignL (wpAny_Subscript_Name_late (nameL C hV.seen (nameL C ht ⟨"dict", "dict.__getitem__", slot_dict_getitem.lookup, hm.typeIs, ?_⟩)))))))
 refine wpAny_getItem_heap (s := ⟨h, gs, dr, t, os⟩) (knd := tupH w) (k := (arcsOf nd.l, nd.fin)) ?_ ((tupK w).keep C.X.gh hkey) hm hat ?_
 ·show A.units + 3 + 1 + 3 < cLine
  lia
 refine storeL C fun h₂ t₂ C₂ _ => wpAny_execs_nil ?_
 have V₂ := hV.up (x := "this") (v := .int this tv) (by decide)
 have row : ∀ {h' m'}, Cur V g₀ h₀ L g h' m' (ownB w F sn N T fo b) → h'.PlainList N (rowOf r ++ [Value.ref p.x]).toArray := fun {h' m'} C' => by
  have : h'.PlainList N (rowOf b.ns).toArray := C'.get (RowE N b.ns) row_own
  rwa [hns, rowOf_cons] at this
 have rlen : (rowOf r).length = r.length := by simp [rowOf]
 refine wpAny_execs_cons (assignL (lastItem (row C₂) (by lia) (fun Q' hq => nameL C₂ V₂.nodes hq) fun t₃ => ?_))
 refine storeL C₂ fun h₄ t₄ C₄ _ => ?_
 have V₄ := V₂.up (x := "parent") (v := .ref p.x) (by decide)
 refine wpAny_execs_cons (assignL (Subscript_BinOp (nameL C₄ V₄.last (wpAny_BinOp (callF1 C₄.X.gh B' (kf.bn "len" (by decide)) bt_len (by decide) (nameL C₄ V₄.nodes ?_))))))
 refine Calls.call_len_list (s := ⟨h₄, gs, dr, _, os⟩) (row C₄).isList (by simp; lia) (constI fun t₅ => PyProof.Rows.sub_int ?_)
 refine ⟨"str", "str.__getitem__", slot_str_getitem.lookup, rfl, ?_⟩
 have hix : (((rowOf r ++ [Value.ref p.x]).toArray.size : Nat) : Int) - 1 = (r.length : Nat) := by simp [rlen]
 have hlt : r.length < lst.length := (List.getElem?_eq_some_iff.mp hc).1
 rw [hix]
 refine PyProof.Rows.getItem_str (x := st lst) (c := c) ?_ ?_ ?_
 ·have h1 : decide ((r.length : Int) < -(2 ^ 63 : Int)) = false := by rw [decide_eq_false_iff_not]; lia
  have h2 : decide ((r.length : Int) ≥ 2 ^ 63) = false := by rw [decide_eq_false_iff_not]; lia
  rw [h1, h2]; rfl
 ·have hl : (st lst).length = lst.length := by simp [st, Str.length]
  have e : seqIndex? (r.length : Int) lst.length = some r.length := by
   unfold seqIndex?
   have n1 : ¬ ((r.length : Int) < 0) := by lia
   simp [n1, hlt]
  rw [hl, e]
  simp [st, hc]
 refine storeL C₄ fun h₆ t₆ C₆ _ => ?_
 have pa := kf.pgN "arcs" (by decide)
 have eo : ∀ l, NdEs w (⟨p.x, p.dx, p.ar, p.n, p.fin, l⟩ :: r) = NodeD w p.dx p.n p.ar p.fin :: ArcsE w p.ar l :: NdEs w r := fun l => rfl
 have C₆' := C₆.eq (ow' := (fo ++ [FinE w F b.S b.k, SeenE w sn b.xs, RowE N (p :: r), NodeD w p.dx p.n p.ar p.fin]) ++ ArcsE w p.ar p.l :: (NdEs w r ++ (TabE w T b.tb :: InnE w b.tb))) (by
  have : NdEs w (p :: r) = NodeD w p.dx p.n p.ar p.fin :: ArcsE w p.ar p.l :: NdEs w r := rfl
  unfold ownB; rw [hns, this]; exact app2 rfl)
 refine exE2 (C₆'.get (NodeD w p.dx p.n p.ar p.fin) (memL (memR mem3)) : ∃ t tn, h₆.get? p.dx = some (dictOf (nodeEs w t p.n tn p.ar p.fin) 3)) fun tp tpn hpd => ?_
 have hpi := OK.inst p (by rw [hns]; exact mem0)
 have IP : Inst h₆ p.x 271 p.dx (nodeEs w tp p.n tpn p.ar p.fin) 3 := ⟨C₆.X.gh _ _ hpi.1, hpd⟩
 refine wpAny_execs_cons (wpAny_Assign_Subscript (nameL C₆ (oth (oth sam)) (attrN C₆ (oth sam) (attr_ownH C₆.X.gh B'.X IP pa.1 kf.hhN pa.2 (by rfl) rfl fun t₇ => nameL C₆ sam ?_))))
 obtain ⟨ks, hd, hk⟩ : ArcsAt w h₆ p.ar p.l := C₆'.get (ArcsE w p.ar p.l) (memR mem0)
 refine wpAny_setItem_pairs (s := ⟨h₆, gs, dr, t₇, os⟩) (knd := SK w) (strKind_is P w _ _) hd (fun h₈ hd₈ hs₈ => ?_) (by rw [hk.length]; exact Nat.le_trans hz' (by decide))
 have C₈ := C₆'.upd (Pr' := fun h => ArcsAt w h p.ar (putK p.l c this)) hs₈ (by
  obtain ⟨o, es, ep, ho, rr⟩ := hd₈
  exact .ex ho fun h'' e => ⟨_, ⟨o, es, ep, e, rr⟩, hk.stored c this tv⟩)
 refine wpAny_execs_nil (H g h₈ _ _ { b with ns := ⟨p.x, p.dx, p.ar, p.n, p.fin, putK p.l c this⟩ :: r } tv (Keep.refl _) (C₈.eq ?_) (V₄.up (by decide)) ⟨OK.keys, fun nd' md => ?_⟩ ⟨RP.fin, RP.k, RP.seen, RP.tb, rfl⟩ (oth (oth (oth hn))) (oth (oth sam)) rfl)
 ·unfold ownB; rw [eo]; exact app2 rfl
 ·rcases List.mem_cons.mp md with rfl | md
  ·exact hpi
  ·exact OK.inst nd' (by rw [hns]; exact List.mem_cons_of_mem _ md)
end
end
section
open PySem PySem.W PyProof.Rows
section
variable {w : World} {A : Around} {E : Value → Shared → Prop} {R : Result → Shared → Prop} {K : Frag} {mg mb : Str → Option Value} {gs : Array GenState} {dr : Drawn} {os : OsState}
 {V : Addr → Prop} {g₀ h₀ g h : Heap} {t : Tok} {L : Addr} {fo : List Ent} {F sn N T d dx Df U : Addr} {lst : List Nat} {tl td : Tok} {dt : Nat} {tk : Nat → Tok} {nn : Nat} {outer : List Env}
theorem sfx_turn (kf : KF5 K) (B : Base w K mg mb g₀) (hroom : A.depth + 1 < recursionLimit) (hu : A.units + 30 < cLine) (hh : A.handled = none) (hfr : A.frames = some outer) (FO : FrIn outer fo)
  {g h : Heap} {t : Tok} {m : Str → Option Value} (I : Inst g d 245 dx (dfaEs w tk T Df F U) nn) (hsT : (T == sysModules) = false) (hsS : (sn == sysModules) = false)
  {b : Bd} {a a₂ : Ab} (C : Cur V g₀ h₀ L g h m (ownB w F sn N T fo b)) (hV : SfxV m d N sn lst tl dt td) (OK : BdOk w g b) (RP : Rep b a) (G : a.Good) (hp : a.pop lst = some a₂) {Q : Flow → Shared → Prop}
  (H : ∀ g' h' t' m' b', Keep g g' → Cur V g₀ h₀ L g' h' m' (ownB w F sn N T fo b') → SfxV m' d N sn lst tl dt td → BdOk w g' b' → Rep b' a₂ → b'.ns.length + 1 = b.ns.length → Q .next ⟨h', gs, dr, t', os⟩) :
  wpAny (model P w) (A.deeper (eSfx L)) (execs sfxBody (eSfx L)) Q E ⟨h, gs, dr, t, os⟩ := by
 have hns := RP.ns
 have zh1 : ∃ nd rest, b.ns = nd :: rest := by
  cases q : b.ns with
  | nil => rw [q] at hns; unfold Ab.pop at hp; rw [← hns] at hp; cases hp
  | cons nd rest => exact (exI2 nd rest rfl)
 refine exE2 zh1 fun nd rest hb => ?_
 clear zh1
 rw [hb, List.map_cons] at hns
 have hlen : rest.length + 1 ≤ 800 := by
  have := G.ns; rw [← hns] at this; simpa using this
 have hrow : h.PlainList N (rowOf rest ++ [Value.ref nd.x]).toArray := by
  have : h.PlainList N (rowOf b.ns).toArray := C.get (RowE N b.ns) row_own
  rwa [hb, rowOf_cons] at this
 have rlen : (rowOf rest).length = rest.length := by simp [rowOf]
 have eN : NdEs w (nd :: rest) = NodeD w nd.dx nd.n nd.ar nd.fin :: ArcsE w nd.ar nd.l :: NdEs w rest := rfl
 refine wpAny_execs_cons (assignL (bmeth0_ (nameL C hV.nodes (exI2 ("list") ("list.pop") (anI6 PySem.F.plainAttrs_list PySem.F.slot_list_pop PySem.F.type_list_pop hrow.isList.typeIs (fun a' e => ?_) ?_)))))
 ·cases e; obtain ⟨n, e⟩ := hrow; exact ⟨_, e, rfl⟩
 refine call_pop hrow (by omega) fun h₁ hr₁ hs₁ => ?_
 have C' := C.eq (ow' := (fo ++ [FinE w F b.S b.k, SeenE w sn b.xs]) ++ RowE N (nd :: rest) :: (NodeD w nd.dx nd.n nd.ar nd.fin :: ArcsE w nd.ar nd.l :: NdEs w rest ++ (TabE w T b.tb :: InnE w b.tb))) (by
  unfold ownB; rw [hb, eN]; exact app2 rfl)
 have C₁ := C'.upd (Pr' := fun h => h.PlainList N (rowOf rest).toArray) hs₁ (by
  obtain ⟨n, e⟩ := hr₁
  exact .ex e fun h'' e' => ⟨n, e'⟩)
 refine storeL C₁ fun h₂ t₂ C₂ _ => ?_
 have V₂ := hV.up (x := "node") (v := .ref nd.x) (by decide)
 (refine Exists.elim (Cur.freeze (l := (fo ++ [FinE w F b.S b.k, SeenE w sn b.xs, RowE N rest])) (a := nd.dx) (r := ArcsE w nd.ar nd.l :: NdEs w rest ++ (TabE w T b.tb :: InnE w b.tb)) (C₂.eq (app2 rfl))) fun g₃ zr2 => anE4 zr2 fun C₃ kg₃ eD _ => ?_; clear zr2)
 (refine Exists.elim (Cur.freeze (l := (fo ++ [FinE w F b.S b.k, SeenE w sn b.xs, RowE N rest])) (a := nd.ar) (r := NdEs w rest ++ (TabE w T b.tb :: InnE w b.tb)) (C₃.eq rfl)) fun g₄ zr3 => anE4 zr3 fun C₄ kg₄ eA _ => ?_; clear zr3)
 have kg := kg₃.trans kg₄
 have hi := OK.inst nd (by rw [hb]; exact mem0)
 (refine exE2 eD fun tdn tn eD' => ?_; clear eD)
 have NA : NodeAt w g₄ nd.x nd.dx nd.ar nd.n nd.fin nd.l := ⟨kg _ _ hi.1, (exI2 tdn tn (kg₄ _ _ eD')), eA, hi.2⟩
 have IN : Inst g₄ nd.x 271 nd.dx (nodeEs w tdn nd.n tn nd.ar nd.fin) 3 := ⟨NA.inst, kg₄ _ _ eD'⟩
 have B₄ := B.keeps C₄.X.gg
 obtain ⟨hup, h64⟩ := G.top _ _ hns.symm
 refine wpAny_execs_cons (assignL (meth0_ C₄ B₄.X sam IN kf.mTup (by rfl) (as_tuple_spec (A := A.deeper (eSfx L)) kf.toKF4 C₄.X.gh B₄ hroom hh NA hup h64 fun g₅ h₅ t₅ tt x₅ hkey => ?_)))
 refine storeL (C₄.ro x₅) fun h₆ t₆ C₆ _ => ?_
 have V₆ := V₂.up (x := "tup") (v := .ref tt) (by decide)
 have kg₅ := kg.trans x₅.gg
 have NA₅ := NA.keeps x₅.gg
 have C₆' := C₆.eq (ow' := ownB w F sn N T fo { b with ns := rest }) (app2 rfl)
 have OK₆ : BdOk w g₅ { b with ns := rest } := ⟨fun x mx => (tupK w).keep kg₅ (OK.keys x mx), fun nd' md => by
  have := OK.inst nd' (by rw [hb]; exact List.mem_cons_of_mem _ md)
  exact ⟨kg₅ _ _ this.1, this.2⟩⟩
 have RP₆ : Rep { b with ns := rest } { a with ns := rest.map fun nd => (⟨nd.n, nd.fin, nd.l⟩ : AN) } := ⟨RP.fin, RP.k, RP.seen, RP.tb, rfl⟩
 have hkz : b.k ≤ 800 := Nat.le_trans RP.k G.fin
 have hxz : b.xs.length ≤ 800 := by rw [RP.seen.length]; exact G.seen
 have htz : b.tb.length ≤ 800 := by
  have := G.tr; rw [← RP.tb] at this; simpa [plainOf] using this
 have htz' : ∀ x ∈ b.tb, x.2.2.length ≤ 800 := fun x mx => by
  have := G.inn (x.1, x.2.2) (by rw [← RP.tb]; exact List.mem_map_of_mem (f := fun x : Int × Addr × List (Nat × Int) => (x.1, x.2.2)) mx)
  exact this
 unfold Ab.pop at hp
 rw [← hns] at hp
 dsimp only at hp
 cases hlk : a.seen.lookup (nd.l, nd.fin) with
 | none =>
  rw [hlk] at hp
  dsimp only at hp
  injection hp with hp
  refine sfx_new kf B hroom hu hh hfr FO (I.keeps kg₅) hsS C₆' V₆ OK₆ RP₆ (oth sam) sam NA₅ hkey hkz hxz hlk fun g₇ h₇ t₇ m₇ b₇ tt₇ k₇ C₇ V₇ OK₇ RP₇ hn₇ ht₇ htb₇ => ?_
  refine sfx_arcs (A := A.deeper (eSfx L)) kf B hroom hh (I.keeps (kg₅.trans k₇)) hsT C₇ V₇ hn₇ ht₇ (NA₅.keeps k₇) h64 (by rw [htb₇]; exact htz) (by rw [htb₇]; exact htz') fun g₈ h₈ t₈ m₈ tb₈ k₈ C₈ V₈ hpl₈ => ?_
  refine H g₈ h₈ t₈ m₈ { b₇ with tb := tb₈ } ((kg₅.trans k₇).trans k₈) C₈ V₈ ((⟨OK₇.keys, OK₇.inst⟩ : BdOk w g₇ { b₇ with tb := tb₈ }).keeps k₈) ?_ ?_
  ·rw [← hp]
   exact ⟨RP₇.fin, RP₇.k, RP₇.seen, by rw [hpl₈, htb₇, RP.tb], RP₇.ns⟩
  ·have := congrArg List.length RP₇.ns
   simp only [List.length_map] at this
   show b₇.ns.length + 1 = b.ns.length
   rw [this, hb]; rfl
 | some this =>
  rw [hlk] at hp
  cases hr : rest with
  | nil => rw [hr] at hp; simp at hp
  | cons p r =>
   rw [hr] at hp
   simp only [List.map_cons, List.length_map] at hp
   cases hc : lst[r.length]? with
   | none => rw [hc] at hp; simp at hp
   | some c =>
    rw [hc] at hp
    dsimp only at hp
    injection hp with hp
    have hpz : p.l.length ≤ 800 := by rw [hr] at hns; exact G.par _ _ _ hns.symm
    refine sfx_seen kf B hu C₆' V₆ OK₆ RP₆ (oth sam) sam hkey hr (by rw [hr] at hlen; simp at hlen; omega) hpz hlk hc fun g₇ h₇ t₇ m₇ b₇ tt₇ k₇ C₇ V₇ OK₇ RP₇ hn₇ ht₇ htb₇ => ?_
    refine sfx_arcs (A := A.deeper (eSfx L)) kf B hroom hh (I.keeps (kg₅.trans k₇)) hsT C₇ V₇ hn₇ ht₇ (NA₅.keeps k₇) h64 (by rw [htb₇]; exact htz) (by rw [htb₇]; exact htz') fun g₈ h₈ t₈ m₈ tb₈ k₈ C₈ V₈ hpl₈ => ?_
    refine H g₈ h₈ t₈ m₈ { b₇ with tb := tb₈ } ((kg₅.trans k₇).trans k₈) C₈ V₈ ((⟨OK₇.keys, OK₇.inst⟩ : BdOk w g₇ { b₇ with tb := tb₈ }).keeps k₈) ?_ ?_
    ·rw [← hp]
     exact ⟨RP₇.fin, RP₇.k, RP₇.seen, by rw [hpl₈, htb₇, RP.tb], RP₇.ns⟩
    ·have := congrArg List.length RP₇.ns
     simp only [List.length_map, List.length_cons] at this
     show b₇.ns.length + 1 = b.ns.length
     rw [this, hb, hr]; simp
theorem add_suffix_spec (kf : KF5 K) (gh : Keep g h) (B : Base w K mg mb g) (hroom : A.depth + 1 < recursionLimit) (hu : A.units + 30 < cLine) (hh : A.handled = none) (hfr : A.frames = some outer) (FO : FrIn outer fo)
  (I : Inst g d 245 dx (dfaEs w tk T Df F U) nn) (hsT : (T == sysModules) = false) (hsS : (sn == sysModules) = false) {b : Bd} {a a' : Ab} (O : Own g h (ownB w F sn N T fo b)) (OK : BdOk w g b) (RP : Rep b a) (hp : Pops lst dt a a') (hbl : b.ns.length ≤ 1000)
  (H : ∀ g' h' t' b', Ext (adr (ownB w F sn N T fo b)) g h g' h' → Own g' h' (ownB w F sn N T fo b') → (∀ e ∈ ownB w F sn N T fo b', adr (ownB w F sn N T fo b) e.1 ∨ h.get? e.1 = none) → BdOk w g' b' → Rep b' a' → R (.ok (.ret .none)) ⟨h', gs, dr, t', os⟩) :
  codeAny (model P w) A (.call (.ref 289) ⟨[.ref d, .ref N, .str (st lst) tl, .int dt td, .ref sn], []⟩) R ⟨h, gs, dr, t, os⟩ := by
 refine enter (adr (ownB w F sn N T fo b)) _ O (fun e me => ⟨e, me, rfl⟩) (binds := [("dfa", .ref d), ("nodes", .ref N), ("last", .str (st lst) tl), ("downto", .int dt td), ("seen", .ref sn)]) gh B.X B.lim kf.fSfx (Nat.lt_of_succ_lt hroom) (fun pm => .of_eq (by with_unfolding_all rfl)) (by rfl) (fun h₁ L t₁ C k₁ => ?_) (by rfl) (by rfl) (by rfl) (by decide +kernel)
 have V₀ : SfxV (fun y => ([("dfa", .ref d), ("nodes", .ref N), ("last", .str (st lst) tl), ("downto", .int dt td), ("seen", .ref sn)] : List (Str × Value)).reverse.lookup y) d N sn lst tl dt td := ⟨rfl, rfl, rfl, rfl, rfl⟩
 refine wpAny_execs_cons (wpAny_While (codeAny_whileLoop (fun n s => ∃ g₂ h₂ m₂ b₂ a₂ t₂, s = ⟨h₂, gs, dr, t₂, os⟩ ∧ (n = b₂.ns.length ∧ n ≤ 1000) ∧ Keep g g₂ ∧ Cur (adr (ownB w F sn N T fo b)) g h L g₂ h₂ m₂ (ownB w F sn N T fo b₂) ∧ SfxV m₂ d N sn lst tl dt td ∧ BdOk w g₂ b₂ ∧ Rep b₂ a₂ ∧ Pops lst dt a₂ a') ?_ _ (exI6 g h₁ _ b a t₁ (anI8 rfl ⟨rfl, hbl⟩ (Keep.refl _) C V₀ OK RP hp))))
 intro n s hI
 refine opaqueQ fun Qt Et hQt _ => ?_
 (refine exE6 hI fun g₂ h₂ m₂ b₂ a₂ t₂ zr6 => anE8 zr6 fun ze4 zo5 k₂ C₂ V₂ OK₂ RP₂ hp₂ => ?_; clear hI zr6; subst ze4; obtain ⟨hnl, hle⟩ := zo5)
 have hrow : h₂.PlainList N (rowOf b₂.ns).toArray := C₂.get (RowE N b₂.ns) row_own
 have rlen : (rowOf b₂.ns).toArray.size = b₂.ns.length := by simp [rowOf]
 have alen : a₂.ns.length = b₂.ns.length := by rw [← RP₂.ns, List.length_map]
 refine wpAny_isTrue_Compare1 (callF1 C₂.X.gh (B.keeps k₂) (kf.bn "len" (by decide)) bt_len (by decide) (nameL C₂ V₂.nodes ?_))
 refine Calls.call_len_list (s := ⟨h₂, gs, dr, t₂, os⟩) hrow.isList (by rw [rlen]; omega) (nameL C₂ V₂.downto (PyProof.Rows.gt_int (wpAny_truthy_bool ?_)))
 rw [rlen]
 cases hp₂ with
 | done hd =>
  have : decide ((dt : Int) < (b₂.ns.length : Int)) = false := by rw [decide_eq_false_iff_not]; omega
  rw [this]
  refine hQt _ _ ?_
  refine wpAny_execs_nil (wpAny_execs_nil (H g₂ h₂ _ b₂ C₂.X C₂.O (fun e me => C₂.vis e me) OK₂ RP₂))
 | @step _ a₃ _ hd G hpop hp₃ =>
  have : decide ((dt : Int) < (b₂.ns.length : Int)) = true := by rw [decide_eq_true_iff]; omega
  rw [this]
  refine hQt _ _ ?_
  refine sfx_turn kf B hroom hu hh hfr FO (I.keeps k₂) hsT hsS C₂ V₂ OK₂ RP₂ G hpop fun g₃ h₃ t₃ m₃ b₃ k₃ C₃ V₃ OK₃ RP₃ hl₃ => ?_
  exact ⟨b₃.ns.length, by omega, g₃, h₃, m₃, b₃, a₃, t₃, rfl, ⟨rfl, by omega⟩, k₂.trans k₃, C₃, V₃, OK₃, RP₃, hp₃⟩
end
end
section
open PySem PySem.W PyProof.Rows
noncomputable def pick (a n : Nat) : List Nat := (List.range n).map fun (k : Nat) => ((a : Int) + 1 * (k : Int)).toNat
theorem range_pick (l : List Nat) (a n : Nat) (h : a + n ≤ l.length) : (pick a n).filterMap (l.toArray[·]?) = (l.drop a).take n := by
 unfold pick
 rw [List.filterMap_map]
 induction n with
 | zero => simp
 | succ n ih =>
  rw [List.range_succ, List.filterMap_append, ih (by lia), List.take_add_one]
  congr 1
  have e : ((a : Int) + 1 * (n : Int)).toNat = a + n := by lia
  simp only [List.filterMap_cons, List.filterMap_nil, Function.comp, e]
  have : l.toArray[a + n]? = (l.drop a)[n]? := by simp
  rw [this]
  cases (l.drop a)[n]? <;> rfl
theorem pick_len (a n : Nat) : (pick a n).length = n := by simp [pick]
theorem slice_post {x : List Nat} {t : Tok} {l u : Option (Int × Tok)} {a n : Nat} {Q : Value → Shared → Prop} {s : Shared} (hz : x.length ≤ 1000) (h : a + n ≤ x.length)
  (hi : Builtin.Str.strSliceIndices (l.map (·.1)) (u.map (·.1)) 1 x.length = pick a n) (H : ∀ t' tt, Q (.str (st ((x.drop a).take n)) tt) { s with toks := t' }) : (sliceMade (st x) t l u none).post Q s := by
 have hl : (st x).length = x.length := by simp [st, Str.length]
 have hp : slicePicked (st x) l u none = pick a n := by
  unfold slicePicked; rw [hl]; exact hi
 unfold sliceMade
 rw [hp, hl]
 by_cases e : n = x.length
 ·have ha : a = 0 := by lia
  subst ha
  rw [if_pos (by rw [pick_len]; simp [e])]
  have : (x.drop 0).take n = x := by rw [e]; simp
  rw [this] at H
  exact H s.toks t
 ·rw [if_neg (by rw [pick_len]; simp [e])]
  have := range_pick x a n h
  show (Made.str ⟨_⟩).post Q s
  have e2 : ((pick a n).filterMap fun i => (st x).cps[i]?) = (x.drop a).take n := this
  rw [e2]
  show (Made.str (st ((x.drop a).take n))).post Q s
  unfold Made.post
  exact ⟨by simp [st, Str.length, sizeLine_eq]; lia, H _ _⟩
theorem indices_from (n a : Nat) (h : a ≤ n) : Builtin.Str.strSliceIndices (some (a : Int)) none 1 n = pick a (n - a) := by
 have n1 : ¬ ((a : Int) < 0) := by lia
 have e1 : max 0 (min (a : Int) (n : Int)) = a := by lia
 unfold Builtin.Str.strSliceIndices sliceRange pick
 simp only [show (1 : Int) > 0 by decide, if_true, n1, if_false, e1]
 by_cases e : a = n
 ·subst e; simp
 ·rw [if_pos (by lia)]
  have : (((n : Int) - a + 1 - 1) / 1).toNat = n - a := by rw [Int.ediv_one]; lia
  rw [this]
theorem indices_to (n b : Nat) (h : b ≤ n) : Builtin.Str.strSliceIndices none (some (b : Int)) 1 n = pick 0 b := by
 have n1 : ¬ ((b : Int) < 0) := by lia
 have e1 : max 0 (min (b : Int) (n : Int)) = b := by lia
 unfold Builtin.Str.strSliceIndices sliceRange pick
 simp only [show (1 : Int) > 0 by decide, if_true, n1, if_false, e1]
 by_cases e : b = 0
 ·subst e; simp
 ·rw [if_pos (by lia)]
  have : (((b : Int) - 0 + 1 - 1) / 1).toNat = b := by rw [Int.ediv_one]; lia
  rw [this]; rfl
section
variable {w : World} {A : Around} {E : Value → Shared → Prop} {h : Heap} {gs : Array GenState} {dr : Drawn} {t : Tok} {os : OsState} {env : Env}
theorem sliceFrom {value lower : Expr} {p pos : Pos} {Q : Value → Shared → Prop} {s : Shared}
  (H : wpAny (model P w) A (eval value env) (fun o s₁ => wpAny (model P w) A (eval lower env) (fun vl s₂ => ∃ x t a ta h t₂, s₂ = ⟨h, gs, dr, t₂, os⟩ ∧ o = .str (st x) t ∧ vl = .int (a : Nat) ta ∧ x.length ≤ 1000 ∧ a ≤ x.length ∧
   ∀ h' t' tt, Keep h h' → Q (.str (st (x.drop a)) tt) ⟨h', gs, dr, t', os⟩) E s₁) E s)
  (hp : evalPart (some lower) env = eval lower env := by rfl) (ht : ∀ o r, letTemporaryGo value o r = pure () := by intro _ _; rfl) :
  wpAny (model P w) A (eval (.Subscript value (.Slice (some lower) none none p) pos) env) Q E s := by
 refine wpAny_Subscript_str_slice (wpAny_mono H (fun o s₁ h₁ => ?_) fun _ _ x => x) ht
 rw [hp]
 refine wpAny_mono h₁ (fun vl s₂ h₂ => ?_) fun _ _ x => x
 (refine exE6 h₂ fun x t a ta h t₂ zr4 => anE6 zr4 fun ze1 ze2 ze3 hz ha hq => ?_; clear h₂ zr4; subst ze1; subst ze2; subst ze3)
 rw [evalPart_none]
 refine wpAny_pure (exI4 (st x) t (some ((a : Nat), ta)) none (anI4 rfl rfl rfl ?_))
 refine slice_post (a := a) (n := x.length - a) hz (by lia) (indices_from _ _ ha) fun t' tt => ?_
 have e : (x.drop a).take (x.length - a) = x.drop a := by rw [List.take_of_length_le]; simp
 rw [e]
 exact hq _ _ _ (Keep.push _ _)
theorem sliceTo {value upper : Expr} {p pos : Pos} {Q : Value → Shared → Prop} {s : Shared}
  (H : wpAny (model P w) A (eval value env) (fun o s₁ => wpAny (model P w) A (eval upper env) (fun vl s₂ => ∃ x t b tb h t₂, s₂ = ⟨h, gs, dr, t₂, os⟩ ∧ o = .str (st x) t ∧ vl = .int (b : Nat) tb ∧ x.length ≤ 1000 ∧
   ∀ h' t' tt, Keep h h' → Q (.str (st (x.take b)) tt) ⟨h', gs, dr, t', os⟩) E s₁) E s)
  (hp : evalPart (some upper) env = eval upper env := by rfl) (ht : ∀ o r, letTemporaryGo value o r = pure () := by intro _ _; rfl) :
  wpAny (model P w) A (eval (.Subscript value (.Slice none (some upper) none p) pos) env) Q E s := by
 refine wpAny_Subscript_str_slice (wpAny_mono H (fun o s₁ h₁ => ?_) fun _ _ x => x) ht
 rw [evalPart_none]
 refine wpAny_pure ?_
 rw [hp]
 refine wpAny_mono h₁ (fun vl s₂ h₂ => ?_) fun _ _ x => x
 (refine exE6 h₂ fun x t b tb h t₂ zr8 => anE5 zr8 fun ze5 ze6 ze7 hz hq => ?_; clear h₂ zr8; subst ze5; subst ze6; subst ze7)
 refine (exI4 (st x) t none (some ((b : Nat), tb)) (anI4 rfl rfl rfl ?_))
 have hi : Builtin.Str.strSliceIndices none (some (b : Int)) 1 x.length = pick 0 (min b x.length) := by
  by_cases e : b ≤ x.length
  ·rw [Nat.min_eq_left e]; exact indices_to _ _ e
  ·have e' : x.length ≤ b := by lia
   rw [Nat.min_eq_right e']
   have := indices_to x.length x.length (Nat.le_refl _)
   rw [← this]
   unfold Builtin.Str.strSliceIndices
   have n1 : ¬ ((b : Int) < 0) := by lia
   have n2 : ¬ ((x.length : Int) < 0) := by lia
   simp only [show (1 : Int) > 0 by decide, if_true, n1, n2, if_false]
   have e1 : max 0 (min (b : Int) (x.length : Int)) = x.length := by lia
   have e2 : max 0 (min (x.length : Int) (x.length : Int)) = x.length := by lia
   rw [e1, e2]
 refine slice_post (a := 0) (n := min b x.length) hz (by lia) hi fun t' tt => ?_
 have e : (x.drop 0).take (min b x.length) = x.take b := by
  rw [List.drop_zero]
  by_cases e : b ≤ x.length
  ·rw [Nat.min_eq_left e]
  ·rw [Nat.min_eq_right (by lia), List.take_of_length_le (Nat.le_refl _), List.take_of_length_le (by lia)]
 rw [e]
 exact hq _ _ _ (Keep.push _ _)
theorem attrE {value : Expr} {attr : Str} {pos : Pos} {Q : Value → Shared → Prop} {s : Shared}
  (H : wpAny (model P w) A (eval value env) (fun o s₁ => wpAny (model P w) A (getAttr o attr true) Q E s₁) E s)
  (hb : attributeBase value attr env (eval value env) = eval value env := by with_unfolding_all rfl) :
  wpAny (model P w) A (eval (.Attribute value attr pos) env) Q E s := by
 rw [arm_eval_Attribute, hb]
 exact wpAny_bind (wpAny_mono H (fun o s₁ h₁ => wpAny_bind (wpAny_standAt (wpAny_bind (wpAny_holding (wpAny_mono h₁ (fun r s₂ h₂ => wpAny_bind (wpAny_letTemporaryGo (wpAny_pure h₂))) fun _ _ x => x))))) fun _ _ x => x)
end
noncomputable def FrE (L : Addr) (m : Str → Option Value) : Ent := (L, fun h => h.Ns L m)
theorem Cur.ownL {V : Addr → Prop} {g₀ h₀ : Heap} {L : Addr} {g h : Heap} {m} {fr oc : List Ent} (C : Cur V g₀ h₀ L g h m (fr ++ oc)) : Own g h (FrE L m :: oc) := by
 have O := C.O.right
 refine ⟨fun e me => ?_, ?_, fun e me => ?_⟩
 ·rcases List.mem_cons.mp me with rfl | me
  ·obtain ⟨o, es, ep, ho, r⟩ := C.F.ns
   exact ⟨o, ho, fun h' _ e => ⟨o, es, ep, e, r⟩⟩
  ·exact O.at_ e me
 ·rw [List.map_cons, List.nodup_cons]
  refine ⟨fun z => ?_, O.nd⟩
  obtain ⟨e, me, q⟩ := List.mem_map.mp z
  exact C.nL e (memR me) q
 ·rcases List.mem_cons.mp me with rfl | me
  ·exact C.F.off
  ·exact O.off e me
theorem Cur.callL {V V' : Addr → Prop} {g₀ h₀ : Heap} {L : Addr} {g h g' h' : Heap} {m} {fr oc oc' : List Ent} (C : Cur V g₀ h₀ L g h m (fr ++ oc)) (x : Ext V' g h g' h')
  (hv : ∀ b, V' b → adr (FrE L m :: oc) b) (O' : Own g' h' (FrE L m :: oc')) (hn : ∀ e ∈ FrE L m :: oc', adr (FrE L m :: oc) e.1 ∨ h.get? e.1 = none) : Cur V g₀ h₀ L g' h' m (fr ++ oc') := by
 have nd := C.O.nd
 rw [List.map_append, List.nodup_append] at nd
 have nd' := O'.nd
 rw [List.map_cons, List.nodup_cons] at nd'
 have hfr : ∀ e ∈ fr, ¬ adr (FrE L m :: oc) e.1 := fun e me ⟨e', me', z⟩ => by
  rcases List.mem_cons.mp me' with rfl | me'
  ·exact C.nL e (memL me) z.symm
  ·exact nd.2.2 e.1 (List.mem_map_of_mem (f := fun x : Ent => x.1) me) e'.1 (List.mem_map_of_mem (f := fun x : Ent => x.1) me') z.symm
 have Ofr : Own g h fr := ⟨fun e me => C.O.at_ e (memL me), nd.1, fun e me => C.O.off e (memL me)⟩
 have Ofr' := Ofr.ext x fun e me v => hfr e me (hv _ v)
 have old : ∀ b, h.get? b = none → h₀.get? b = none := fun b q => by
  cases r : h₀.get? b with
  | none => rfl
  | some o => exact absurd q (C.X.live b (by rw [r]; exact Option.some_ne_none _))
 have vis : ∀ b, adr (FrE L m :: oc) b → V b ∨ h₀.get? b = none := fun b ⟨e, me, z⟩ => by
  rcases List.mem_cons.mp me with rfl | me
  ·exact .inr (z ▸ C.new)
  ·exact z ▸ C.vis e (memR me)
 have hL := O'.at_ _ mem0
 have nsL : h'.Ns L m := hL.now x.gh
 refine ⟨C.X.trans x fun b v => vis b (hv b v), ⟨nsL, O'.off _ mem0⟩, C.new, ⟨fun e me => ?_, ?_, fun e me => ?_⟩, fun e me => ?_, fun e me => ?_⟩
 ·rcases List.mem_append.mp me with q | q
  ·exact Ofr'.at_ e q
  ·exact O'.at_ e (.tail _ q)
 ·rw [List.map_append, List.nodup_append]
  refine (anI3 nd.1 nd'.2 (fun a ha b hb z => ?_))
  obtain ⟨e, me, rfl⟩ := List.mem_map.mp ha
  obtain ⟨e', me', rfl⟩ := List.mem_map.mp hb
  rcases hn e' (.tail _ me') with q | q
  ·exact hfr e me (z ▸ q)
  ·exact (Ofr.at_ e me).live (z ▸ q)
 ·rcases List.mem_append.mp me with q | q
  ·exact Ofr'.off e q
  ·exact O'.off e (.tail _ q)
 ·rcases List.mem_append.mp me with q | q
  ·exact C.nL e (memL q)
  ·exact fun z => nd'.1 (by have t := List.mem_map_of_mem (f := fun x : Ent => x.1) q; rw [z] at t; exact t)
 ·rcases List.mem_append.mp me with q | q
  ·exact C.vis e (memL q)
  ·rcases hn e (.tail _ q) with z | z
   ·exact vis _ z
   ·exact .inr (old _ z)
end
section
open PySem PySem.W PyProof.Rows
structure Flies (outer : List Env) (e : Addr) (X : String) (h : Heap) (base h' : Heap) : Prop where
 fly : ∃ tp, Heap.FlyingW base outer e (.type X) tp h'
 keep : ∀ b o, ¬ frs outer b → h.get? b = some o → base.get? b = some o
 none : ∀ b, frs outer b → base.get? b = none
section
variable {w : World} {A : Around} {E : Value → Shared → Prop} {Rf : Result → Shared → Prop} {h : Heap} {gs : Array GenState} {dr : Drawn} {t : Tok} {os : OsState}
theorem base_of (h : Heap) (l : List Env) : ∃ base : Heap, (∀ b o, base.get? b = some o ↔ h.get? b = some o ∧ ¬ frs l b) ∧ ∀ b, frs l b → base.get? b = none := by
 refine ⟨keepOnly h fun b => !((l.filterMap (·.frame)).contains b), fun b o => ?_, fun b fb => ?_⟩
 ·rw [keepOnly_get]; unfold frs; simp
 ·cases q : (keepOnly h fun b => !((l.filterMap (·.frame)).contains b)).get? b with
  | none => rfl
  | some o =>
   have := (keepOnly_get.mp q).2
   unfold frs at fb
   simp [fb] at this
theorem frs_tail {env : Env} {outer : List Env} {b : Addr} (x : frs outer b) : frs (env :: outer) b := by
 unfold frs at x ⊢
 rw [List.filterMap_cons]
 split
 ·exact x
 ·exact List.mem_cons_of_mem _ x
theorem raise_out {env : Env} {outer : List Env} {L e : Addr} {X : String} {h₁ : Heap} (hfr : A.frames = some (env :: outer)) (hf : env.frame = some L) (hok : FrsOk h (env :: outer)) (hx : Heap.NewExc h h₁ e X)
  (H : ∀ h' base, (∃ tp, Heap.FlyingW base outer e (.type X) tp h') → (∀ b o, ¬ frs (env :: outer) b → h.get? b = some o → base.get? b = some o) → (∀ b, frs (env :: outer) b → base.get? b = none) → (∀ a m, h.Ns a m → h'.Ns a m) → Rf (.error (.ref e)) ⟨h', gs, dr, t, os⟩) :
  notedBy (model P w) A env (fun e s' => cameBackBy (model P w) A env (fun e s' => wpAny (model P w) A (leaving env e) (fun _ s'' => Rf (.error e) s'') (fun e' s'' => Rf (.error e') s'') s') e s') (.ref e) ⟨h₁, gs, dr, t, os⟩ := by
 (refine exE2 hx.there fun ob tp zr1 => anE3 zr1 fun he hc hd => ?_; clear zr1)
 obtain ⟨base, base_get, base_none⟩ := base_of h (env :: outer)
 have hen : base.get? e = none := by
  cases q : base.get? e with
  | none => rfl
  | some o => have := ((base_get e o).mp q).1; rw [hx.new] at this; cases this
 have st₁ : base.StaysIn h₁ := fun b o q => hx.keeps b o ((base_get b o).mp q).1
 show wpAny _ _ (noteFrame _ _) _ _ _
 unfold noteFrame
 rw [hf]
 refine wpAny_bind (wpAny_field (s := ⟨h₁, gs, dr, t, os⟩) he hd (x := .none) rfl ?_)
 rw [if_neg (by decide)]
 refine wpAny_entryW (s := ⟨h₁, gs, dr, t, os⟩) (a0 := tp) (base := base) hfr (funFrames_of (frsOk_keeps hx.keeps hok) base_none) hf he st₁ hen hd (by show 1 < 6; decide) rfl fun h₂ zk => ?_
 obtain ⟨k1, k2, k3, k4⟩ := zk
 have u₂ : h₁.UpToSlots h₂ := k4
 rw [hc] at k3
 obtain ⟨oe, vs, Tb, oT, ts, e1, e2, e3, e4, e5, e6, e7, e8, e9⟩ := k3
 have hsz : 3 < ts.size := (Array.getElem?_eq_some_iff.mp e9).1
 show wpAny _ _ (do
  if (← field (.ref e) 1) == .none then unsupported "frame.own-activation:exception-without-traceback"
  setFlight (.ref e) env.frame) _ _ _
 refine wpAny_bind (wpAny_field (s := ⟨h₂, gs, dr, t, os⟩) e1 e3 e4 ?_)
 rw [if_neg (by simp)]
 show wpAny _ _ (setFlight (.ref e) env.frame) _ _ _
 unfold setFlight
 refine wpAny_bind (wpAny_field (s := ⟨h₂, gs, dr, t, os⟩) e1 e3 e4 ?_)
 rw [if_pos (show (Value.ref Tb != Value.none) = true from by simp)]
 refine wpAny_setField (s := ⟨h₂, gs, dr, t, os⟩) e7 e8 hsz ?_
 have other : ∀ b, b ≠ Tb → (h₂.update Tb (Obj.mapFields (·.setIfInBounds 3 (env.frame.elim Value.none fun f => rawInt f)))).get? b = h₂.get? b := fun b hb => Heap.get?_update_other _ _ (Ne.symm hb)
 have noRec : ∀ b o, h₂.get? b = some o → (∀ vs, o.data ≠ .fields vs) → b ≠ Tb := fun b o hb hn z => by
  rw [z, e7] at hb; cases hb; exact hn _ e8
 have held : Heap.HeldW base (env :: outer) e (.type X) tp L (h₂.update Tb (Obj.mapFields (·.setIfInBounds 3 (env.frame.elim Value.none fun f => rawInt f)))) := by
  refine ⟨fun b o q => (other b fun z => ?_).trans (k1 b o q), hen, k2.of_keeps fun b o hb hn => ⟨o, (other b (noRec b o hb hn)).trans hb, rfl⟩, ?_⟩
  ·rw [z, e5] at q; cases q
  ·refine ⟨oe, vs, Tb, _, _, (other e (Ne.symm e6)).trans e1, e2, e3, e4, e5, e6, Heap.get?_update_self _ e7 (Obj.isFreed_of_fields (Obj.data_mapFields e8 _)), Obj.data_mapFields e8 _, ?_⟩
   rw [hf]; simp [hsz]
 have u₃ : h₂.UpToSlots (h₂.update Tb (Obj.mapFields (·.setIfInBounds 3 (env.frame.elim Value.none fun f => rawInt f)))) := fun b o hb hn => ⟨o.slots, (other b (noRec b o hb hn)).trans hb⟩
 generalize h₂.update Tb (Obj.mapFields (·.setIfInBounds 3 (env.frame.elim Value.none fun f => rawInt f))) = h₃ at held u₃
 show wpAny _ _ (leaving env (.ref e)) _ _ _
 unfold leaving
 refine wpAny_bind (wpAny_noteFrame_againW (s := ⟨h₃, gs, dr, t, os⟩) hf held.2.2.2 ?_)
 refine wpAny_landsW (s := ⟨h₃, gs, dr, t, os⟩) held fun h₄ hfl u₄ => ?_
 obtain ⟨f1, f2, ⟨_, _, f3⟩, f4⟩ := hfl
 exact H h₄ base ⟨tp, f1, f2, f3, f4⟩ (fun b o nb q => (base_get b o).mpr ⟨q, nb⟩) base_none fun a m hn => ((u₂.trans u₃).trans u₄).ns (Ns_at hn fun o q => hx.keeps _ _ q)
theorem caught_fly {env : Env} {outer : List Env} {L e : Addr} {X T : String} {base h₁ : Heap} {tp : Value} {te : Expr} {b₀ : Stmt} {suite : List Stmt} {pos : Pos} {rest : List ExceptHandler} {Q : Flow → Shared → Prop}
  (hfr : A.frames = some (env :: outer)) (hf : env.frame = some L) (hfl : Heap.FlyingW base (env :: outer) e (.type X) tp h₁)
  (hexc : isSubtype (.type T) (.type "BaseException") = pure true) (hnt : isSubtype (.type ((Manifest.find? T).elim "type" fun x => x.metatype)) (.type "tuple") = pure false)
  (hsub : isSubtype (.type X) (.type T) = pure true)
  (hte : ∀ h' t' Q', base.StaysIn h' → h₁.UpToSlots h' → Q' (.type T) ⟨h', gs, dr, t', os⟩ → wpAny (model P w) (A.mark (some (.ref e))) (eval te env) Q' (fun _ _ => False) ⟨h', gs, dr, t', os⟩)
  (H : ∀ h' t', base.StaysIn h' → h₁.UpToSlots h' → wpAny (model P w) (A.mark (some (.ref e))) (execs (b₀ :: suite) env) Q (fun _ _ => False) ⟨h', gs, dr, t', os⟩) :
  wpAny (model P w) A (noteFrame (.ref e) env) (fun _ s₂ => wpAny (model P w) A (setFlight (.ref e) none) (fun _ s₃ => wpAny (model P w) A (handleBy (.ref e) env (.ExceptHandler (some te) none (b₀ :: suite) pos :: rest)) Q E s₃) E s₂) E ⟨h₁, gs, dr, t, os⟩ := by
 refine wpAny_looks_onW (s := ⟨h₁, gs, dr, t, os⟩) hfr hf hfl fun h₂ held u₂ => ?_
 refine wpAny_landsW (s := ⟨h₂, gs, dr, t, os⟩) held fun h₃ hfl₃ u₃ => ?_
 obtain ⟨ob₃, hob₃, hobc₃⟩ := hfl₃.there
 refine wpAny_handleBy_builtin (X := X) (T := T) (b := true) hexc hnt hsub ?_
 refine wpAny_noRaise (hte h₃ t _ hfl₃.1 (u₂.trans u₃) (anI3 rfl ⟨ob₃, hob₃, hobc₃⟩ ?_))
 refine lands_againW (s := ⟨h₃, gs, dr, t, os⟩) hfl₃ fun h₄ hfl₄ u₄ => ?_
 exact wpAny_noRaise (H h₄ t hfl₄.1 ((u₂.trans u₃).trans u₄))
end
end
section
open PySem PySem.W PyProof.Rows
structure KF6 (K : Frag) : Prop extends KF5 K where
 fDfaF : HasFn K 282 "strings_dfa" "strings_dfa" (fnOfSt (topSt 7)) .none (.ref 281)
noncomputable abbrev eDf (L : Addr) : Env := envOf "strings_dfa" (fnOfSt (topSt 7)).scope L 282 (.ref 281)
noncomputable def dfaBody : List Stmt := bodyOf ((fnOfSt (topSt 7)).body.getD 5 (.Pass default))
theorem lcp_le : ∀ (a b : List Nat), lcp a b ≤ a.length ∧ lcp a b ≤ b.length
 | [], _ => by simp [lcp]
 | _ :: _, [] => by simp [lcp]
 | a :: as, b :: bs => by
  have := lcp_le as bs
  unfold lcp
  split <;> simp <;> omega
theorem lcp_next : ∀ (a b : List Nat) (k : Nat), k ≤ lcp a b → ((k < a.length ∧ k < b.length ∧ a[k]? = b[k]?) ↔ k < lcp a b)
 | [], _, k, h => by simp [lcp] at h ⊢
 | _ :: _, [], k, h => by simp [lcp] at h ⊢
 | a :: as, b :: bs, k, h => by
  unfold lcp at h ⊢
  by_cases e : a = b
  ·rw [if_pos e] at h ⊢
   cases k with
   | zero => simp [e]
   | succ k =>
    have := lcp_next as bs k (by omega)
    simp only [List.length_cons, List.getElem?_cons_succ]
    constructor
    ·rintro ⟨x, y, z⟩; have := this.mp (anI3 (by omega) (by omega) z); omega
    ·intro x; refine anE3 (this.mpr (by omega)) fun p q r => ?_; exact (anI3 (by omega) (by omega) r)
  ·rw [if_neg e] at h ⊢
   have : k = 0 := by omega
   subst this
   simp [e]
theorem get_ch {l : List Nat} {k c : Nat} (h : l[k]? = some c) (hz : l.length ≤ 1000) : (decide ((k : Int) < -(2 ^ 63 : Int)) || decide ((k : Int) ≥ 2 ^ 63)) = false ∧ (seqIndex? (k : Int) (st l).length).bind ((st l).cps[·]?) = some c := by
 have hlt : k < l.length := (List.getElem?_eq_some_iff.mp h).1
 have h1 : decide ((k : Int) < -(2 ^ 63 : Int)) = false := by rw [decide_eq_false_iff_not]; omega
 have h2 : decide ((k : Int) ≥ 2 ^ 63) = false := by rw [decide_eq_false_iff_not]; omega
 refine ⟨by rw [h1, h2]; rfl, ?_⟩
 have hl : (st l).length = l.length := by simp [st, Str.length]
 have e : seqIndex? (k : Int) l.length = some k := by
  unfold seqIndex?
  have n1 : ¬ ((k : Int) < 0) := by omega
  simp [n1, hlt]
 rw [hl, e]
 simp [st, h]
section
variable {w : World} {A : Around} {E : Value → Shared → Prop} {K : Frag} {mg mb : Str → Option Value} {gs : Array GenState} {dr : Drawn} {os : OsState}
 {V : Addr → Prop} {g₀ h₀ g h : Heap} {t : Tok} {L : Addr} {m : Str → Option Value} {ow : List Ent}
theorem lenStr {env : Env} {o : Expr} {p pos : Pos} {Q : Value → Shared → Prop} (gh : Keep g h) (kf : KF6 K) (B : Base w K mg mb g) {x : List Nat} {tx : Tok} (hz : x.length ≤ 1000)
  (ho : ∀ Q', Q' (.str (st x) tx) ⟨h, gs, dr, t, os⟩ → wpAny (model P w) A (eval o env) Q' E ⟨h, gs, dr, t, os⟩) (H : ∀ t' tt, Q (.int x.length tt) ⟨h, gs, dr, t', os⟩)
  (h1 : starEach [o] env = (false, eval o env) :: starEach [] env := by rfl)
  (hg : env.globals = mainGlobals := by rfl) (hb : env.builtins = builtinsNs := by rfl) (hk : env.scope.kind = .function := by rfl) (hx : env.kindOf "len" = some .globalImplicit := by rfl) :
  wpAny (model P w) A (eval (.Call (.Name "len" p) [o] [] pos) env) Q E ⟨h, gs, dr, t, os⟩ := by
 have hl : (st x).length = x.length := by simp [st, Str.length]
 refine callF1 gh B (kf.bn "len" (by decide)) bt_len (by decide) (ho _ (PyProof.Rows.len_str ?_ ?_)) h1 hg hb hk hx
 ·rw [hl]; omega
 ·rw [hl]; exact H _ _
theorem itemStr {env : Env} {o : Expr} {x : Str} {p pos : Pos} {Q : Value → Shared → Prop} {l : List Nat} {tx ti : Tok} {k c : Nat} (hc : l[k]? = some c) (hz : l.length ≤ 1000)
  (ho : ∀ Q', Q' (.str (st l) tx) ⟨h, gs, dr, t, os⟩ → wpAny (model P w) A (eval o env) Q' E ⟨h, gs, dr, t, os⟩)
  (hi : ∀ Q', Q' (.int (k : Nat) ti) ⟨h, gs, dr, t, os⟩ → wpAny (model P w) A (eval (.Name x p) env) Q' E ⟨h, gs, dr, t, os⟩) (H : ∀ t' tt, Q (.str (ch c) tt) ⟨h, gs, dr, t', os⟩)
  (ht : ∀ o' r, letTemporaryGo o o' r = pure () := by intro _ _; rfl) : wpAny (model P w) A (eval (.Subscript o (.Name x p) pos) env) Q E ⟨h, gs, dr, t, os⟩ := by
 obtain ⟨h1, h2⟩ := get_ch hc hz
 exact wpAny_Subscript_Name_late (ho _ (hi _ ⟨"str", "str.__getitem__", slot_str_getitem.lookup, rfl, PyProof.Rows.getItem_str (x := st l) (c := c) h1 h2 (H _ _)⟩)) ht
theorem lcp_while (kf : KF6 K) (B : Base w K mg mb g) (C : Cur V g₀ h₀ L g h m ow) {last wd : List Nat} {tl tw ti : Tok} (hl : m "last" = some (.str (st last) tl)) (hs : m "string" = some (.str (st wd) tw)) (hi : m "i" = some (.int 0 ti))
  (hz : last.length ≤ 60) (hz' : wd.length ≤ 60) {Q : Flow → Shared → Prop}
  (H : ∀ h' t' m' ti', Cur V g₀ h₀ L g h' m' ow → (∀ y : Str, y ≠ "i" → m' y = m y) → m' "i" = some (.int (lcp last wd) ti') → Q .next ⟨h', gs, dr, t', os⟩) :
  wpAny (model P w) A (exec (dfaBody.getD 3 (.Pass default)) (eDf L)) Q E ⟨h, gs, dr, t, os⟩ := by
 have le := lcp_le last wd
 refine wpAny_While (codeAny_whileLoop (fun n s => ∃ k h₁ m₁ t₁ t₂, s = ⟨h₁, gs, dr, t₁, os⟩ ∧ n = lcp last wd - k ∧ k ≤ lcp last wd ∧ Cur V g₀ h₀ L g h₁ m₁ ow ∧ (∀ y : Str, y ≠ "i" → m₁ y = m y) ∧ m₁ "i" = some (.int (k : Nat) t₂)) ?_ _
  (exI5 0 h m t ti (anI6 rfl rfl (Nat.zero_le _) C (fun _ _ => rfl) hi)))
 intro n s hI
 refine opaqueQ fun Qt Et hQt _ => ?_
 (refine exE5 hI fun k h₁ m₁ t₁ t₂ zr3 => anE6 zr3 fun ze1 ze2 hk C₁ hm₁ hi₁ => ?_; clear hI zr3; subst ze1)
 have hl₁ : m₁ "last" = some (.str (st last) tl) := (hm₁ _ (by decide)).trans hl
 have hs₁ : m₁ "string" = some (.str (st wd) tw) := (hm₁ _ (by decide)).trans hs
 have nx := lcp_next last wd k hk
 have stop : ¬ k < lcp last wd → ∀ t', wpAny (model P w) A (execs [] (eDf L)) (fun f s₃ => (fun (r : Result) (s' : Shared) => match r with | .ok f => Q f s' | .error e => cameBackBy (model P w) A (eDf L) E e s') (.ok f) s₃) (notedBy (model P w) A (eDf L) fun e s' => (fun (r : Result) (s' : Shared) => match r with | .ok f => Q f s' | .error e => cameBackBy (model P w) A (eDf L) E e s') (.error e) s') ⟨h₁, gs, dr, t', os⟩ := fun hn t' => by
  have : k = lcp last wd := by omega
  rw [this] at hi₁
  exact wpAny_execs_nil (H h₁ t' m₁ t₂ C₁ hm₁ hi₁)
 refine isTrue_and (wpAny_isTrue_Compare1 (nameL C₁ hi₁ (lenStr C₁.X.gh kf B (by omega) (fun Q' hq => nameL C₁ hl₁ hq) fun t₃ t₃' => PyProof.Rows.lt_int (wpAny_truthy_bool ?_))))
 by_cases c1 : k < last.length
 ·rw [decide_eq_true (show ((k : Nat) : Int) < (last.length : Int) by omega)]
  refine isTrue_and (wpAny_isTrue_Compare1 (nameL C₁ hi₁ (lenStr C₁.X.gh kf B (by omega) (fun Q' hq => nameL C₁ hs₁ hq) fun t₄ t₄' => PyProof.Rows.lt_int (wpAny_truthy_bool ?_))))
  by_cases c2 : k < wd.length
  ·rw [decide_eq_true (show ((k : Nat) : Int) < (wd.length : Int) by omega)]
   obtain ⟨a, ha⟩ : ∃ a, last[k]? = some a := ⟨last[k], List.getElem?_eq_getElem c1⟩
   obtain ⟨b, hb⟩ : ∃ b, wd[k]? = some b := ⟨wd[k], List.getElem?_eq_getElem c2⟩
   refine isTrue_and (wpAny_isTrue_Compare1 (itemStr ha (by omega) (fun Q' hq => nameL C₁ hl₁ hq) (fun Q' hq => nameL C₁ hi₁ hq) fun t₅ t₅' => itemStr hb (by omega) (fun Q' hq => nameL C₁ hs₁ hq) (fun Q' hq => nameL C₁ hi₁ hq) fun t₆ t₆' => PyProof.Rows.eq_str (wpAny_truthy_bool ?_)))
   by_cases c3 : a = b
   ·have hlt : k < lcp last wd := nx.mp (anI3 c1 c2 (by rw [ha, hb, c3]))
    rw [c3, beq_self_eq_true]
    refine isTrue_and_nil (hQt _ _ ?_)
    refine wpAny_execs_cons (wpAny_AugAssign_Name (wpAny_loadName_local (by rfl) (by rfl) C₁.F.ns hi₁ (constI fun t₇ => PyProof.Rows.iadd_int (storeL C₁ fun h₈ t₈ C₈ _ => ?_))))
    exact wpAny_execs_nil ⟨lcp last wd - (k + 1), by rw [ze2]; exact Nat.sub_lt_sub_left hlt (Nat.lt_succ_self k), k + 1, h₈, _, t₈, _, rfl, rfl, hlt, C₈, fun y hy => (if_neg hy).trans (hm₁ y hy), by rw [if_pos rfl]; rfl⟩
   ·have : (ch a == ch b) = false := by rw [beq_eq_false_iff_ne]; exact fun z => c3 (ch_inj z)
    rw [this]
    exact hQt _ _ (stop (fun z => c3 (by have := (nx.mpr z).2.2; rw [ha, hb] at this; exact Option.some.inj this)) _)
  ·rw [decide_eq_false (show ¬ ((k : Nat) : Int) < (wd.length : Int) by omega)]
   exact hQt _ _ (stop (fun z => c2 (nx.mpr z).2.1) _)
 ·rw [decide_eq_false (show ¬ ((k : Nat) : Int) < (last.length : Int) by omega)]
  exact hQt _ _ (stop (fun z => c1 (nx.mpr z).1) _)
end
end
section
open PySem PySem.W PyProof.Rows
section
variable {w : World} {A : Around} {E : Value → Shared → Prop} {K : Frag} {mg mb : Str → Option Value} {gs : Array GenState} {dr : Drawn} {os : OsState} {g h : Heap} {t : Tok} {env : Env}
theorem callG1 {x : Str} {f : Addr} {p pos : Pos} {e : Expr} {Q : Value → Shared → Prop} (gh : Keep g h) (B : Base w K mg mb g) (ex : nsIn K mainGlobals x = some (some (.ref f))) (kp : keepIn K (.ref f) = true)
  (H : wpAny (model P w) A (eval e env) (fun v s => K.In s.heap ∧ codeAny (model P w) A (.call (.ref f) ⟨[v], []⟩) (back Q E) s) E ⟨h, gs, dr, t, os⟩)
  (h1 : starEach [e] env = (false, eval e env) :: starEach [] env := by rfl)
  (hg : env.globals = mainGlobals := by rfl) (hb : env.builtins = builtinsNs := by rfl) (hk : env.scope.kind = .function := by rfl) (hx : env.kindOf x = some .globalImplicit := by rfl) (hd : (x == ("__debug__" : Str)) = false := by decide) :
  wpAny (model P w) A (eval (.Call (.Name x p) [e] [] pos) env) Q E ⟨h, gs, dr, t, os⟩ :=
 wpAny_Call_NameR (nameG gh B ex (callWith_K (h₀ := g) B.X kp (wpAny_items_cons (wpAny_mono H (fun v s₁ h₁ => wpAny_items_nil ⟨h₁.1, wpAny_call h₁.2⟩) fun _ _ z => z) h1) h1 rfl) hg hb hk hx hd)
end
theorem ownB_app {w : World} {F sn N T : Addr} {fe fo : List Ent} {b : Bd} : fe ++ ownB w F sn N T fo b = ownB w F sn N T (fe ++ fo) b := by
 unfold ownB; rw [← List.append_assoc, ← List.append_assoc]
noncomputable def pushBody : List Stmt := bodyOf (dfaBody.getD 6 (.Pass default))
section
variable {w : World} {A : Around} {E : Value → Shared → Prop} {K : Frag} {mg mb : Str → Option Value} {gs : Array GenState} {dr : Drawn} {os : OsState}
 {V : Addr → Prop} {g₀ h₀ g h : Heap} {t : Tok} {L : Addr} {m : Str → Option Value} {fo : List Ent} {F sn N T : Addr}
theorem push_body (kf : KF6 K) (B : Base w K mg mb g) (hroom : A.depth + 1 < recursionLimit) {b : Bd} {p : Nd} {r : List Nd} (C : Cur V g₀ h₀ L g h m (ownB w F sn N T fo b)) (hb : b.ns = p :: r) (OK : BdOk w g b) {c : Int} {x : Nat} {tc tx : Tok}
  (hN : m "nodes" = some (.ref N)) (hc : m "c" = some (.int c tc)) (hx : m "label" = some (.str (ch x) tx)) (hz : r.length ≤ 800) (hz' : p.l.length ≤ 800) {Q : Flow → Shared → Prop}
  (H : ∀ g' h' t' m' nd tc', Keep g g' → Cur V g₀ h₀ L g' h' m' (ownB w F sn N T fo { b with ns := nd :: { p with l := putK p.l x (c + 1) } :: r }) → nd.n = c + 1 → nd.fin = false → nd.l = [] →
   BdOk w g' { b with ns := nd :: { p with l := putK p.l x (c + 1) } :: r } → (∀ y : Str, y ≠ "c" → y ≠ "node" → m' y = m y) → m' "c" = some (.int (c + 1) tc') → Q .next ⟨h', gs, dr, t', os⟩) :
  wpAny (model P w) A (execs pushBody (eDf L)) Q E ⟨h, gs, dr, t, os⟩ := by
 refine wpAny_execs_cons (wpAny_AugAssign_Name (wpAny_loadName_local (by rfl) (by rfl) C.F.ns hc (constI fun t₇ => PyProof.Rows.iadd_int (storeL C fun h₁ t₁ C₁ _ => ?_))))
 refine wpAny_execs_cons (assignL (callG1 C₁.X.gh B kf.gNode kf.node.kp (nameL C₁ sam ⟨B.X.keeps C₁.X.gh, node_spec kf.toKF2 C₁.X.gh B hroom fun g₂ h₂ t₂ nx ndx nar x₂ hnx O₂ ndxn narn _ => ?_⟩)))
 have B₂ := B.keeps x₂.gg
 have C₂ : Cur V g₀ h₀ L g₂ h₂ _ (ownB w F sn N T fo b ++ [NodeD w ndx (c + 1) nar false, ArcsE w nar []]) := (C₁.eq (ow' := ownB w F sn N T fo b ++ []) (by rw [List.append_nil])).call x₂ (fun _ v => v.elim) O₂ fun e me => by
  rcases List.mem_cons.mp me with rfl | me
  ·exact .inr ndxn
  ·rw [List.mem_singleton.mp me]; exact .inr narn
 refine storeL C₂ fun h₃ t₃ C₃ _ => ?_
 have eN : ∀ l, NdEs w (⟨p.x, p.dx, p.ar, p.n, p.fin, l⟩ :: r) = NodeD w p.dx p.n p.ar p.fin :: ArcsE w p.ar l :: NdEs w r := fun l => rfl
 have eN0 : NdEs w (p :: r) = NodeD w p.dx p.n p.ar p.fin :: ArcsE w p.ar p.l :: NdEs w r := rfl
 have C₃' := C₃.eq (ow' := (fo ++ [FinE w F b.S b.k, SeenE w sn b.xs, RowE N (p :: r), NodeD w p.dx p.n p.ar p.fin]) ++ ArcsE w p.ar p.l :: (NdEs w r ++ (TabE w T b.tb :: InnE w b.tb) ++ [NodeD w ndx (c + 1) nar false, ArcsE w nar []])) (by
  unfold ownB; rw [hb, eN0]; exact app3 (by rw [List.append_assoc (NdEs w r)]; rfl))
 refine exE2 (C₃'.get (NodeD w ndx (c + 1) nar false) (memR (.tail _ (memR mem0))) : ∃ t tn, h₃.get? ndx = some (dictOf (nodeEs w t (c + 1) tn nar false) 3)) fun tn tnn hnd => ?_
 refine exE2 (C₃'.get (NodeD w p.dx p.n p.ar p.fin) (memL (memR mem3)) : ∃ t tn, h₃.get? p.dx = some (dictOf (nodeEs w t p.n tn p.ar p.fin) 3)) fun tp tpn hpd => ?_
 have hpi := OK.inst p (by rw [hb]; exact mem0)
 have IN : Inst h₃ nx 271 ndx (nodeEs w tn (c + 1) tnn nar false) 3 := ⟨C₃.X.gh _ _ hnx, hnd⟩
 have IP : Inst h₃ p.x 271 p.dx (nodeEs w tp p.n tpn p.ar p.fin) 3 := ⟨C₃.X.gh _ _ (x₂.gg _ _ hpi.1), hpd⟩
 have pn := kf.pgN "n" (by decide)
 have pa := kf.pgN "arcs" (by decide)
 have hrow : h₃.PlainList N (rowOf r ++ [Value.ref p.x]).toArray := by
  have : h₃.PlainList N (rowOf (p :: r)).toArray := C₃'.get (RowE N (p :: r)) (memL (memR mem2))
  rwa [rowOf_cons] at this
 have rlen : (rowOf r).length = r.length := by simp [rowOf]
 refine wpAny_execs_cons (wpAny_Assign_Subscript (attrN C₃ sam (attr_ownH C₃.X.gh B₂.X IN pn.1 kf.hhN pn.2 (by rfl) rfl fun t₄ => ?_)))
 refine attrE (lastItem hrow (by lia) (fun Q' hq => nameL C₃ (oth (oth hN)) hq) fun t₅ => attr_ownH C₃.X.gh B₂.X IP pa.1 kf.hhN pa.2 (by rfl) rfl fun t₆ => nameL C₃ (oth (oth hx)) ?_)
 obtain ⟨ks, hd, hk⟩ : ArcsAt w h₃ p.ar p.l := C₃'.get (ArcsE w p.ar p.l) (memR mem0)
 refine wpAny_setItem_pairs (s := ⟨h₃, gs, dr, t₆, os⟩) (knd := SK w) (strKind_is P w _ _) hd (fun h₇ hd₇ hs₇ => ?_) (by rw [hk.length]; exact Nat.le_trans hz' (by decide))
 have C₇ := C₃'.upd (Pr' := fun h => ArcsAt w h p.ar (putK p.l x (c + 1))) hs₇ (by
  obtain ⟨o, es, ep, ho, rr⟩ := hd₇
  exact .ex ho fun h'' e => ⟨_, ⟨o, es, ep, e, rr⟩, hk.stored x (c + 1) tnn⟩)
 have hrow₇ : h₇.PlainList N (rowOf (p :: r)).toArray := C₇.get (RowE N (p :: r)) (memL (memR mem2))
 refine wpAny_execs_cons (wpAny_Expr (bmeth1_ (nameL C₇ (oth (oth hN)) (exI2 ("list") ("list.append") (anI6 PySem.F.plainAttrs_list PySem.F.slot_list_append PySem.F.type_list_append hrow₇.isList.typeIs (fun a' e => ?_) (nameL C₇ sam ?_))))))
 ·cases e; obtain ⟨n, e⟩ := hrow₇; exact ⟨_, e, rfl⟩
 refine wpAny_list_append_plain (s := ⟨h₇, gs, dr, _, os⟩) hrow₇ (fun h₈ hr₈ hs₈ => ?_) (by simp [rowOf, sizeLine_eq]; lia)
 have hr₈' : h₈.PlainList N (rowOf (⟨nx, ndx, nar, c + 1, false, []⟩ :: p :: r)).toArray := by
  have e : (rowOf (⟨nx, ndx, nar, c + 1, false, []⟩ :: p :: r)).toArray = (rowOf (p :: r)).toArray.push (.ref nx) := by rw [rowOf_cons]; simp
  rw [e]; exact hr₈
 have C₇' := C₇.eq (ow' := (fo ++ [FinE w F b.S b.k, SeenE w sn b.xs]) ++ RowE N (p :: r) :: (NodeD w p.dx p.n p.ar p.fin :: ArcsE w p.ar (putK p.l x (c + 1)) :: (NdEs w r ++ (TabE w T b.tb :: InnE w b.tb) ++ [NodeD w ndx (c + 1) nar false, ArcsE w nar []]))) (app2 rfl)
 have C₈ := C₇'.upd (Pr' := fun h => h.PlainList N (rowOf (⟨nx, ndx, nar, c + 1, false, []⟩ :: p :: r)).toArray) hs₈ (by
  obtain ⟨n, e⟩ := hr₈'
  exact .ex e fun h'' e' => ⟨n, e'⟩)
 have C₉ := C₈.perm (ow' := ownB w F sn N T fo { b with ns := ⟨nx, ndx, nar, c + 1, false, []⟩ :: { p with l := putK p.l x (c + 1) } :: r }) (by
  have e1 : ownB w F sn N T fo { b with ns := ⟨nx, ndx, nar, c + 1, false, []⟩ :: { p with l := putK p.l x (c + 1) } :: r } =
   (fo ++ [FinE w F b.S b.k, SeenE w sn b.xs, RowE N (⟨nx, ndx, nar, c + 1, false, []⟩ :: p :: r)]) ++ ([NodeD w ndx (c + 1) nar false, ArcsE w nar []] ++ (NodeD w p.dx p.n p.ar p.fin :: ArcsE w p.ar (putK p.l x (c + 1)) :: (NdEs w r ++ (TabE w T b.tb :: InnE w b.tb)))) := by
   exact app2 rfl
  have e2 : (fo ++ [FinE w F b.S b.k, SeenE w sn b.xs]) ++ (N, fun h : Heap => h.PlainList N (rowOf (⟨nx, ndx, nar, c + 1, false, []⟩ :: p :: r)).toArray) :: (NodeD w p.dx p.n p.ar p.fin :: ArcsE w p.ar (putK p.l x (c + 1)) :: (NdEs w r ++ (TabE w T b.tb :: InnE w b.tb) ++ [NodeD w ndx (c + 1) nar false, ArcsE w nar []])) =
   (fo ++ [FinE w F b.S b.k, SeenE w sn b.xs, RowE N (⟨nx, ndx, nar, c + 1, false, []⟩ :: p :: r)]) ++ ((NodeD w p.dx p.n p.ar p.fin :: ArcsE w p.ar (putK p.l x (c + 1)) :: (NdEs w r ++ (TabE w T b.tb :: InnE w b.tb))) ++ [NodeD w ndx (c + 1) nar false, ArcsE w nar []]) := by
   simp [RowE]
  rw [e1, e2]
  exact List.perm_append_comm.append_left _)
 refine wpAny_execs_nil (H g₂ h₈ _ _ ⟨nx, ndx, nar, c + 1, false, []⟩ _ x₂.gg C₉ rfl rfl rfl ⟨fun y my => (tupK w).keep x₂.gg (OK.keys y my), fun nd' md => ?_⟩ (fun y h1 h2 => (if_neg h2).trans (if_neg h1)) (oth sam))
 rcases List.mem_cons.mp md with rfl | md
 ·exact ⟨hnx, B.newSys C₁.X.gh narn⟩
 ·rcases List.mem_cons.mp md with rfl | md
  ·exact ⟨x₂.gg _ _ hpi.1, hpi.2⟩
  ·have := OK.inst nd' (by rw [hb]; exact List.mem_cons_of_mem _ md)
   exact ⟨x₂.gg _ _ this.1, this.2⟩
end
end
section
open PySem PySem.W PyProof.Rows
theorem pushL_ne : ∀ (w : List Nat) (ns : List AN) (c : Int), ns ≠ [] → pushL ns c w ≠ []
 | [], _, _, h => h
 | _ :: w, [], _, h => absurd rfl h
 | x :: w, p :: r, c, _ => pushL_ne w _ _ (by simp)
noncomputable def push1 : List AN → Int → Nat → List AN
 | [], _, _ => []
 | p :: r, c, x => ⟨c + 1, false, []⟩ :: { p with l := putK p.l x (c + 1) } :: r
theorem pushL_snoc : ∀ (w : List Nat) (ns : List AN) (c : Int) (x : Nat), ns ≠ [] → pushL ns c (w ++ [x]) = push1 (pushL ns c w) (c + w.length) x
 | [], [], _, _, h => absurd rfl h
 | [], p :: r, c, x, _ => by simp [pushL, push1]
 | _ :: _, [], _, _, h => absurd rfl h
 | y :: w, p :: r, c, x, _ => by
  show pushL (_ :: _ :: r) (c + 1) (w ++ [x]) = push1 (pushL (_ :: _ :: r) (c + 1) w) _ x
  rw [pushL_snoc w _ (c + 1) x (by simp)]
  have : c + 1 + (w.length : Int) = c + ((y :: w).length : Int) := by simp only [List.length_cons]; push_cast; lia
  rw [this]
theorem pushL_len : ∀ (w : List Nat) (ns : List AN) (c : Int), ns ≠ [] → (pushL ns c w).length = ns.length + w.length
 | [], _, _, _ => rfl
 | _ :: _, [], _, h => absurd rfl h
 | x :: w, p :: r, c, _ => by
  show (pushL (_ :: _ :: r) (c + 1) w).length = _
  rw [pushL_len w _ _ (by simp)]
  simp only [List.length_cons]; lia
theorem pushL_l : ∀ (w : List Nat) (ns : List AN) (c : Int) (M : Nat), (∀ p ∈ ns, p.l.length ≤ M) → ∀ p ∈ pushL ns c w, p.l.length ≤ M + w.length
 | [], _, _, _, h => h
 | _ :: _, [], _, _, _ => fun _ m => absurd m List.not_mem_nil
 | x :: w, p :: r, c, M, h => by
  intro q mq
  have := pushL_l w (⟨c + 1, false, []⟩ :: { p with l := putK p.l x (c + 1) } :: r) (c + 1) (M + 1) (fun y my => by
   rcases List.mem_cons.mp my with rfl | my
   ·simp
   ·rcases List.mem_cons.mp my with rfl | my
    ·exact Nat.le_trans (putK_len _ _ _) (Nat.succ_le_succ (h p (mem0)))
    ·exact Nat.le_succ_of_le (h y (.tail _ my))) q mq
  simp only [List.length_cons]; lia
section
variable {w : World} {A : Around} {E : Value → Shared → Prop} {K : Frag} {mg mb : Str → Option Value} {gs : Array GenState} {dr : Drawn} {os : OsState}
 {V : Addr → Prop} {g₀ h₀ g h : Heap} {t : Tok} {L : Addr} {m : Str → Option Value} {fo : List Ent} {F sn N T : Addr}
theorem push_for (kf : KF6 K) (B : Base w K mg mb g) (hroom : A.depth + 1 < recursionLimit) (hh : A.handled = none) {b : Bd} {a : Ab} (C : Cur V g₀ h₀ L g h m (ownB w F sn N T fo b)) (OK : BdOk w g b) (RP : Rep b a) (hne : a.ns ≠ []) (RM : a.Room)
  {c : Int} {wd : List Nat} {k : Nat} {tc tw tp : Tok} (hN : m "nodes" = some (.ref N)) (hc : m "c" = some (.int c tc)) (hs : m "string" = some (.str (st wd) tw)) (hp : m "prefixlen" = some (.int (k : Nat) tp)) (hk : k ≤ wd.length) (hz : wd.length ≤ 60) {Q : Flow → Shared → Prop}
  (H : ∀ g' h' t' m' b' tc', Keep g g' → Cur V g₀ h₀ L g' h' m' (ownB w F sn N T fo b') → BdOk w g' b' → Rep b' { a with ns := pushL a.ns c (wd.drop k) } → (∀ y : Str, y ≠ "c" → y ≠ "node" → y ≠ "label" → m' y = m y) → m' "c" = some (.int (c + (wd.drop k).length) tc') → Q .next ⟨h', gs, dr, t', os⟩) :
  wpAny (model P w) A (exec (dfaBody.getD 6 (.Pass default)) (eDf L)) Q E ⟨h, gs, dr, t, os⟩ := by
 refine wpAny_noRaise (wpAny_For (sliceFrom (nameL C hs (nameL C hp (exI6 wd tw k tp h t (anI6 rfl rfl rfl (by lia) hk (fun h₁ t₁ tx k₁ => ?_)))))))
 (refine Exists.elim (C.kept k₁) fun g₁ zr1 => anE3 zr1 fun C₁ kg₁ _ => ?_; clear zr1)
 refine forStr hh C₁ fun it h₂ fe St C₂ FP => ?_
 have C₂' := C₂.eq ownB_app
 refine forLoop (FP.feed "label" _ (by rfl)) (fun i g' m' ow => ∃ b' tc', ow = ownB w F sn N T fo b' ∧ BdOk w g' b' ∧ Rep b' { a with ns := pushL a.ns c ((wd.drop k).take i) } ∧ (∀ y : Str, y ≠ "c" → y ≠ "node" → y ≠ "label" → m' y = m y) ∧ m' "c" = some (.int (c + ((wd.drop k).take i).length) tc')) C₂ rfl FP.new FP.st
  (exI2 b tc (anI5 rfl (OK.keeps kg₁) (by simpa [pushL] using RP) (fun _ _ _ _ => rfl) (by simpa using hc))) (fun i g₅ h₅ m₁ m₅ ow fe₅ t₅ hi k₅ hj hp C₅ => ?_) (fun g₅ h₅ m₅ ow t₅ k₅ hj C₅ => ?_)
 ·(refine exE2 hj fun b' tc' zr3 => anE5 zr3 fun ze2 OK₅ RP₅ hm₅ hc₅ => ?_; clear hj zr3; subst ze2)
  obtain ⟨v, ⟨x, u, hx, rfl⟩, rfl⟩ := hp
  have hxd : (wd.drop k)[i]? = some x := by simpa [st] using hx
  have hilt : i < (wd.drop k).length := (List.getElem?_eq_some_iff.mp hxd).1
  have hil : ((wd.drop k).take i).length = i := by rw [List.length_take]; lia
  have hdl : (wd.drop k).length ≤ 60 := by simp; lia
  have nsne := pushL_ne ((wd.drop k).take i) a.ns c hne
  have nslen := pushL_len ((wd.drop k).take i) a.ns c hne
  have nsl := pushL_l ((wd.drop k).take i) a.ns c 700 RM.l
  have hns := RP₅.ns
  have zh4 : ∃ p r, b'.ns = p :: r := by
   cases q : b'.ns with
   | nil => rw [q] at hns; exact absurd hns.symm nsne
   | cons p r => exact (exI2 p r rfl)
  refine exE2 zh4 fun p r hb => ?_
  clear zh4
  rw [hb, List.map_cons] at hns
  have := RM.ns
  have hr : r.length ≤ 800 := by
   have e := congrArg List.length hns
   simp only [List.length_cons, List.length_map] at e
   have e' : r.length + 1 = (pushL a.ns c ((wd.drop k).take i)).length := e
   rw [nslen, hil] at e'
   lia
  have hpl : p.l.length ≤ 800 := by
   have e := nsl ⟨p.n, p.fin, p.l⟩ (by
    have : (⟨p.n, p.fin, p.l⟩ : AN) ∈ pushL a.ns c ((wd.drop k).take i) := by
     have e' : (⟨p.n, p.fin, p.l⟩ :: r.map (fun nd => (⟨nd.n, nd.fin, nd.l⟩ : AN))) = pushL a.ns c ((wd.drop k).take i) := hns
     rw [← e']; exact mem0
    exact this)
   have e' : p.l.length ≤ 700 + ((wd.drop k).take i).length := e
   lia
  have C₅' := C₅.eq ownB_app
  refine push_body kf ((B.keeps kg₁).keeps k₅) hroom C₅' hb OK₅ (c := c + ((wd.drop k).take i).length) (oth ((hm₅ _ (by decide) (by decide) (by decide)).trans hN)) (oth hc₅) sam hr hpl fun g₆ h₆ t₆ m₆ nd tc₆ k₆ C₆ e1 e2 e3 OK₆ hm₆ hc₆ => ?_
  refine ⟨g₆, h₆, m₆, _, t₆, rfl, k₆, C₆.eq ownB_app.symm, _, tc₆, rfl, OK₆, ⟨RP₅.fin, RP₅.k, RP₅.seen, RP₅.tb, ?_⟩, fun y h1 h2 h3 => (hm₆ y h1 h2).trans ((if_neg h3).trans (hm₅ y h1 h2 h3)), ?_⟩
  ·have e' : (⟨p.n, p.fin, p.l⟩ :: r.map (fun nd => (⟨nd.n, nd.fin, nd.l⟩ : AN))) = pushL a.ns c ((wd.drop k).take i) := hns
   show _ = pushL a.ns c ((wd.drop k).take (i + 1))
   rw [List.take_add_one, hxd, Option.toList_some, pushL_snoc _ _ _ _ hne, ← e', List.map_cons, List.map_cons, e1, e2, e3]
   rfl
  ·rw [hc₆]
   congr 2
   rw [List.take_add_one, hxd, Option.toList_some, List.length_append]
   simp only [List.length_cons, List.length_nil]
   push_cast
   lia
 ·(refine exE2 hj fun b' tc' zr6 => anE5 zr6 fun ze5 OK₅ RP₅ hm₅ hc₅ => ?_; clear hj zr6; subst ze5)
  have e : (st (wd.drop k)).cps.size = (wd.drop k).length := by simp [st]
  rw [e, List.take_length] at RP₅ hc₅
  exact wpAny_execs_nil (H g₅ h₅ t₅ m₅ b' tc' (kg₁.trans k₅) C₅ OK₅ RP₅ hm₅ hc₅)
end
end
section
open PySem PySem.W PyProof.Rows
structure DfV (m : Str → Option Value) (d N sn : Addr) (c : Int) (last : List Nat) : Prop where
 dfa : m "dfa" = some (.ref d)
 nodes : m "nodes" = some (.ref N)
 seen : m "seen" = some (.ref sn)
 c : ∃ t, m "c" = some (.int c t)
 last : ∃ t, m "last" = some (.str (st last) t)
theorem DfV.other {m m' : Str → Option Value} {d N sn c last} (x : DfV m d N sn c last) {l : List Str} (e : ∀ y : Str, y ∉ l → m' y = m y) (h1 : ("dfa" : Str) ∉ l := by decide) (h2 : ("nodes" : Str) ∉ l := by decide) (h3 : ("seen" : Str) ∉ l := by decide) (h4 : ("c" : Str) ∉ l := by decide) (h5 : ("last" : Str) ∉ l := by decide) : DfV m' d N sn c last :=
 ⟨(e _ h1).trans x.dfa, (e _ h2).trans x.nodes, (e _ h3).trans x.seen, (by obtain ⟨t, q⟩ := x.c; exact ⟨t, (e _ h4).trans q⟩), (by obtain ⟨t, q⟩ := x.last; exact ⟨t, (e _ h5).trans q⟩)⟩
theorem DfV.up {m : Str → Option Value} {d N sn c last} (x : DfV m d N sn c last) {y : Str} {v : Value} (h : ∀ z ∈ (["dfa", "nodes", "seen", "c", "last"] : List Str), z ≠ y := by decide) : DfV (fun z => if z = y then some v else m z) d N sn c last :=
 x.other (l := [y]) (fun z hz => if_neg fun e => hz (by rw [e]; exact List.mem_singleton.mpr rfl)) (fun e => h _ (by decide) (List.mem_singleton.mp e)) (fun e => h _ (by decide) (List.mem_singleton.mp e)) (fun e => h _ (by decide) (List.mem_singleton.mp e)) (fun e => h _ (by decide) (List.mem_singleton.mp e)) (fun e => h _ (by decide) (List.mem_singleton.mp e))
section
variable {w : World} {A : Around} {E : Value → Shared → Prop} {Rf : Result → Shared → Prop} {K : Frag} {mg mb : Str → Option Value} {gs : Array GenState} {dr : Drawn} {os : OsState}
 {V : Addr → Prop} {g₀ h₀ g h : Heap} {t : Tok} {L : Addr} {m : Str → Option Value} {fo : List Ent} {F sn N T d dx Df U : Addr} {tk : Nat → Tok} {nn : Nat} {outer : List Env}
theorem truthyStr {x : List Nat} {tx : Tok} {Q : Bool → Shared → Prop} (hz : x.length ≤ 1000) (H : ∀ t', Q (decide (x ≠ [])) ⟨h, gs, dr, t', os⟩) : wpAny (model P w) A (truthy (.str (st x) tx)) Q E ⟨h, gs, dr, t, os⟩ := by
 have hl : (st x).length = x.length := by simp [st, Str.length]
 refine PySem.P.truthy_str (by rw [hl]; lia) ?_
 have e : (((st x).length : Int) != 0) = decide (x ≠ []) := by
  rw [hl]
  cases x with
  | nil => rfl
  | cons a x =>
   have h1 : ((((a :: x).length : Nat) : Int) != 0) = true := by rw [bne_iff_ne]; simp only [List.length_cons]; lia
   rw [h1]; simp
 rw [e]
 exact H _
theorem call_sfx {env : Env} {x1 x2 x3 x5 e4 : Expr} {p pos : Pos} {v1 v2 v3 : Value} {Q : Value → Shared → Prop} (kf : KF6 K) (gh : Keep g h) (B : Base w K mg mb g)
  (h1 : ∀ Q', Q' v1 ⟨h, gs, dr, t, os⟩ → wpAny (model P w) A (eval x1 env) Q' E ⟨h, gs, dr, t, os⟩) (h2 : ∀ Q', Q' v2 ⟨h, gs, dr, t, os⟩ → wpAny (model P w) A (eval x2 env) Q' E ⟨h, gs, dr, t, os⟩)
  (h3 : ∀ Q', Q' v3 ⟨h, gs, dr, t, os⟩ → wpAny (model P w) A (eval x3 env) Q' E ⟨h, gs, dr, t, os⟩)
  (h4 : wpAny (model P w) A (eval e4 env) (fun v4 s => ∃ t', s = ⟨h, gs, dr, t', os⟩ ∧ wpAny (model P w) A (eval x5 env) (fun v5 s => K.In s.heap ∧ codeAny (model P w) A (.call (.ref 289) ⟨[v1, v2, v3, v4, v5], []⟩) (back Q E) s) E ⟨h, gs, dr, t', os⟩) E ⟨h, gs, dr, t, os⟩)
  (s1 : starEach [x1, x2, x3, e4, x5] env = (false, eval x1 env) :: starEach [x2, x3, e4, x5] env := by rfl) (s2 : starEach [x2, x3, e4, x5] env = (false, eval x2 env) :: starEach [x3, e4, x5] env := by rfl)
  (s3 : starEach [x3, e4, x5] env = (false, eval x3 env) :: starEach [e4, x5] env := by rfl) (s4 : starEach [e4, x5] env = (false, eval e4 env) :: starEach [x5] env := by rfl) (s5 : starEach [x5] env = (false, eval x5 env) :: starEach [] env := by rfl)
  (hg : env.globals = mainGlobals := by rfl) (hb : env.builtins = builtinsNs := by rfl) (hk : env.scope.kind = .function := by rfl) (hx : env.kindOf "add_suffix" = some .globalImplicit := by rfl) :
  wpAny (model P w) A (eval (.Call (.Name "add_suffix" p) [x1, x2, x3, e4, x5] [] pos) env) Q E ⟨h, gs, dr, t, os⟩ :=
 wpAny_Call_NameR (nameG gh B kf.gSfx (callWith_K (h₀ := g) B.X kf.kSfx (wpAny_items_cons (h1 _ (wpAny_items_cons (h2 _ (wpAny_items_cons (h3 _ (wpAny_items_cons (wpAny_mono h4 (fun v4 s zz0 => by
  obtain ⟨t', e, hh⟩ := zz0
  subst e
  exact wpAny_items_cons (wpAny_mono hh (fun v5 s' h' => wpAny_items_nil ⟨h'.1, wpAny_call h'.2⟩) fun _ _ z => z) s5) fun _ _ z => z) s4)) s3)) s2)) s1) s1 (by rw [s2, s3, s4, s5]; rfl)) hg hb hk hx)
theorem set_final (kf : KF6 K) (B : Base w K mg mb g) {b : Bd} {p : Nd} {r : List Nd} (C : Cur V g₀ h₀ L g h m (ownB w F sn N T fo b)) (hb : b.ns = p :: r) (OK : BdOk w g b) (hN : m "nodes" = some (.ref N)) (hz : r.length ≤ 800) {Q : Flow → Shared → Prop}
  (H : ∀ h' t', Cur V g₀ h₀ L g h' m (ownB w F sn N T fo { b with ns := { p with fin := true } :: r }) → Q .next ⟨h', gs, dr, t', os⟩) :
  wpAny (model P w) A (exec (dfaBody.getD 7 (.Pass default)) (eDf L)) Q E ⟨h, gs, dr, t, os⟩ := by
 have eN : ∀ f, NdEs w (⟨p.x, p.dx, p.ar, p.n, f, p.l⟩ :: r) = NodeD w p.dx p.n p.ar f :: ArcsE w p.ar p.l :: NdEs w r := fun l => rfl
 have eN0 : NdEs w (p :: r) = NodeD w p.dx p.n p.ar p.fin :: ArcsE w p.ar p.l :: NdEs w r := rfl
 have C' := C.eq (ow' := (fo ++ [FinE w F b.S b.k, SeenE w sn b.xs, RowE N (p :: r)]) ++ NodeD w p.dx p.n p.ar p.fin :: (ArcsE w p.ar p.l :: NdEs w r ++ (TabE w T b.tb :: InnE w b.tb))) (by
  unfold ownB; rw [hb, eN0]; exact app2 rfl)
 refine exE2 (C'.get (NodeD w p.dx p.n p.ar p.fin) (memR mem0) : ∃ t tn, h.get? p.dx = some (dictOf (nodeEs w t p.n tn p.ar p.fin) 3)) fun tp tpn hpd => ?_
 have hpi := OK.inst p (by rw [hb]; exact mem0)
 have hrow : h.PlainList N (rowOf r ++ [Value.ref p.x]).toArray := by
  have : h.PlainList N (rowOf (p :: r)).toArray := C'.get (RowE N (p :: r)) (memL (memR mem2))
  rwa [rowOf_cons] at this
 have rlen : (rowOf r).length = r.length := by simp [rowOf]
 refine plainObj_wpAny_Assign_Attribute (wpAny_Constant_bool (lastItem hrow (by lia) (fun Q' hq => nameL C hN hq) fun t₁ => ?_))
 refine setA (C'.exact hpd) B.X (C.X.gh _ _ hpi.1) kf.node.set (by decide) (by rfl) (by rfl) fun h₂ t₂ C₂ _ => H h₂ t₂ ?_
 have C₃ := C₂.entry (Pr' := fun h => ∃ t tn, h.get? p.dx = some (dictOf (nodeEs w t p.n tn p.ar true) 3)) (by
  have e := C₂.get (exEnt p.dx _) (memR mem0)
  exact .ex e fun h'' e' => (exI2 tp tpn e'))
 refine C₃.eq ?_
 have : NdEs w ({ p with fin := true } :: r) = NodeD w p.dx p.n p.ar true :: ArcsE w p.ar p.l :: NdEs w r := rfl
 unfold ownB
 rw [this]
 exact app2 rfl
theorem word_ok (kf : KF6 K) (B : Base w K mg mb g) (hroom : A.depth + 2 < recursionLimit) (hu : A.units + 60 < cLine) (hh : A.handled = none) (hfr : A.frames = some outer) (FO : FrIn outer fo)
  (I : Inst g d 245 dx (dfaEs w tk T Df F U) nn) (hsT : (T == sysModules) = false) (hsS : (sn == sysModules) = false) {b : Bd} {s : Sb} {a : Ab} {wd : List Nat} {tw : Tok}
  (C : Cur V g₀ h₀ L g h m (ownB w F sn N T fo b)) (OK : BdOk w g b) (RP : Rep b s.ab) (hV : DfV m d N sn s.c s.last) (hs : m "string" = some (.str (st wd) tw))
  (hlt : s.last < wd) (hz : wd.length ≤ 60) (hz' : s.last.length ≤ 60) (hnl : s.ab.ns.length ≤ 1000) (hp : Pops s.last (lcp s.last wd + 1) s.ab a) (hne : a.ns ≠ []) (RM : a.Room) {Q : Flow → Shared → Prop}
  (H : ∀ g' h' t' m' b', Keep g g' → Cur V g₀ h₀ L g' h' m' (ownB w F sn N T fo b') → BdOk w g' b' → Rep b' { a with ns := finTop (pushL a.ns s.c (wd.drop (lcp s.last wd))) } → DfV m' d N sn (s.c + (wd.drop (lcp s.last wd)).length) wd → Q .next ⟨h', gs, dr, t', os⟩) :
  wpAny (model P w) (A.deeper (eDf L)) (execs dfaBody (eDf L)) Q E ⟨h, gs, dr, t, os⟩ := by
 obtain ⟨tl, hl⟩ := hV.last
 obtain ⟨tc, hc⟩ := hV.c
 have hll := lcp_le s.last wd
 refine wpAny_execs_cons (wpAny_If (wpAny_isTrue_Compare1 (nameL C hs (nameL C hl (PySem.P.le_str (wpAny_truthy_bool ?_))))))
 have e0 : (!decide ((st s.last).cps.toList < (st wd).cps.toList)) = false := by
  rw [Bool.not_eq_false', decide_eq_true_iff]; exact hlt
 rw [e0]
 refine wpAny_execs_nil ?_
 refine wpAny_execs_cons (wpAny_If (isTrue_not (isTrue_plain (nameL C hs (truthyStr (by lia) fun t₀ => ?_)))))
 have hwne : wd ≠ [] := by
  rintro rfl
  exact absurd hlt (List.not_lt_nil _)
 rw [show decide (wd ≠ []) = true from decide_eq_true hwne]
 refine wpAny_execs_nil ?_
 refine wpAny_execs_cons (assignL (constI fun t₁ => storeL C fun h₂ t₂ C₂ _ => ?_))
 refine wpAny_execs_cons (lcp_while kf B C₂ (oth hl) (oth hs) sam hz' hz fun h₃ t₃ m₃ ti C₃ hm₃ hi₃ => ?_)
 refine wpAny_execs_cons (assignL (nameL C₃ hi₃ (storeL C₃ fun h₄ t₄ C₄ _ => ?_)))
 have hm₄ : ∀ y : Str, y ∉ (["i", "prefixlen"] : List Str) → (fun y => if y = ("prefixlen" : Str) then some (Value.int (lcp s.last wd) ti) else m₃ y) y = m y := fun y hy => by
  simp only [List.mem_cons, List.not_mem_nil, or_false, not_or] at hy
  exact (if_neg hy.2).trans ((hm₃ y hy.1).trans (if_neg hy.1))
 have V₄ := hV.other hm₄
 have C₄' : Cur V g₀ h₀ L g h₄ _ ([] ++ ownB w F sn N T fo b) := C₄
 have O₄ := C₄'.ownL
 refine wpAny_execs_cons (wpAny_Expr (call_sfx kf C₄.X.gh B (fun Q' hq => nameL C₄ V₄.dfa hq) (fun Q' hq => nameL C₄ V₄.nodes hq) (fun Q' hq => nameL C₄ ((hm₄ _ (by decide)).trans hl) hq)
  (wpAny_BinOp (nameL C₄ sam (constI fun t₅ => PyProof.Rows.add_int ⟨_, rfl, nameL C₄ V₄.seen ⟨B.X.keeps C₄.X.gh, ?_⟩⟩)))))
 refine add_suffix_spec (A := A.deeper (eDf L)) (dt := lcp s.last wd + 1) (lst := s.last) (outer := eDf L :: outer) (fo := FrE L _ :: fo) (F := F) (Df := Df) (U := U) kf.toKF5 C₄.X.gh B hroom (by show A.units + 3 + 30 < cLine; lia) hh (Around.frames_deeper hfr) (fun env me => ?_) I hsT hsS O₄ OK RP hp ?_ fun g₆ h₆ t₆ b₆ x₆ O₆ n₆ OK₆ RP₆ => ?_
 ·rcases List.mem_cons.mp me with rfl | me
  ·exact ⟨(by show (fnOfSt (topSt 7)).scope.kind ≠ .module; decide), (exI2 L _ ⟨rfl, mem0⟩)⟩
  ·(refine anE2 (FO env me) fun a1 zr1 => exE2 zr1 fun L' m' zr2 => anE2 zr2 fun a2 a3 => ?_; clear zr2 zr1)
   exact ⟨a1, (exI2 L' m' ⟨a2, (.tail _ a3)⟩)⟩
 ·have := congrArg List.length RP.ns
  rw [List.length_map] at this
  lia
 have C₆ : Cur V g₀ h₀ L g₆ h₆ _ ([] ++ ownB w F sn N T fo b₆) := C₄'.callL x₆ (fun _ v => v) O₆ n₆
 have C₆' := C₆.eq (List.nil_append _)
 have B₆ := B.keeps x₆.gg
 refine wpAny_execs_cons (push_for (A := A.deeper (eDf L)) kf B₆ hroom hh C₆' OK₆ RP₆ hne RM V₄.nodes ((hm₄ _ (by decide)).trans hc) ((hm₄ _ (by decide)).trans hs) sam hll.2 hz fun g₇ h₇ t₇ m₇ b₇ tc₇ k₇ C₇ OK₇ RP₇ hm₇ hc₇ => ?_)
 have B₇ := B₆.keeps k₇
 have nsne := pushL_ne (wd.drop (lcp s.last wd)) a.ns s.c hne
 have hns := RP₇.ns
 have zh3 : ∃ p r, b₇.ns = p :: r := by
  cases q : b₇.ns with
  | nil => rw [q] at hns; exact absurd hns.symm nsne
  | cons p r => exact (exI2 p r rfl)
 refine exE2 zh3 fun p r hb => ?_
 clear zh3
 rw [hb, List.map_cons] at hns
 have hr : r.length ≤ 800 := by
  have e := congrArg List.length hns
  simp only [List.length_cons, List.length_map] at e
  have e' : r.length + 1 = (pushL a.ns s.c (wd.drop (lcp s.last wd))).length := e
  rw [pushL_len _ _ _ hne] at e'
  have := RM.ns
  simp only [List.length_drop] at e'
  lia
 have m₇_ : ∀ y : Str, y ∉ (["i", "prefixlen", "c", "node", "label"] : List Str) → m₇ y = m y := fun y hy => by
  simp only [List.mem_cons, List.not_mem_nil, or_false, not_or] at hy
  exact (hm₇ y hy.2.2.1 hy.2.2.2.1 hy.2.2.2.2).trans (hm₄ y (by simp [hy.1, hy.2.1]))
 refine wpAny_execs_cons (set_final kf B₇ C₇ hb OK₇ ((m₇_ _ (by decide)).trans hV.nodes) hr fun h₈ t₈ C₈ => ?_)
 refine wpAny_execs_cons (assignL (nameL C₈ ((m₇_ _ (by decide)).trans hs) (storeL C₈ fun h₉ t₉ C₉ _ => ?_)))
 refine wpAny_execs_nil (H g₇ h₉ t₉ _ _ (x₆.gg.trans k₇) C₉ ⟨OK₇.keys, fun nd md => ?_⟩ ⟨RP₇.fin, RP₇.k, RP₇.seen, RP₇.tb, ?_⟩ ⟨oth ((m₇_ _ (by decide)).trans hV.dfa), oth ((m₇_ _ (by decide)).trans hV.nodes), oth ((m₇_ _ (by decide)).trans hV.seen), ⟨tc₇, oth hc₇⟩, ⟨tw, sam⟩⟩)
 ·have hp' := OK₇.inst p (by rw [hb]; exact mem0)
  rcases List.mem_cons.mp md with rfl | md
  ·exact hp'
  ·exact OK₇.inst nd (by rw [hb]; exact List.mem_cons_of_mem _ md)
 ·have e' : (⟨p.n, p.fin, p.l⟩ :: r.map (fun nd => (⟨nd.n, nd.fin, nd.l⟩ : AN))) = pushL a.ns s.c (wd.drop (lcp s.last wd)) := hns
  show _ = finTop (pushL a.ns s.c (wd.drop (lcp s.last wd)))
  rw [← e']
  rfl
end
end
section
open PySem PySem.W PyProof.Rows
theorem Cur.freezeAll {V : Addr → Prop} {g₀ h₀ : Heap} {L : Addr} {h : Heap} {m} {l : List Ent} : ∀ {fz : List Ent} {g : Heap}, Cur V g₀ h₀ L g h m (l ++ fz) → ∃ g', Cur V g₀ h₀ L g' h m l ∧ Keep g g' ∧ ∀ e ∈ fz, EntAt g' g' e
 | [], g, C => ⟨g, (anI3 (by rwa [List.append_nil] at C) (Keep.refl _) (fun _ m => absurd m List.not_mem_nil))⟩
 | (a, Pr) :: fz, g, C => by
  obtain ⟨o, q, r⟩ := C.O.at_ (a, Pr) (memR mem0)
  (refine Exists.elim C.freeze fun g₁ zr1 => anE4 zr1 fun C₁ k₁ p₁ f₁ => ?_; clear zr1)
  (refine Exists.elim (Cur.freezeAll C₁) fun g₂ zr2 => anE3 zr2 fun C₂ k₂ p₂ => ?_; clear zr2)
  refine ⟨g₂, (anI3 C₂ (k₁.trans k₂) (fun e me => ?_))⟩
  rcases List.mem_cons.mp me with rfl | me
  ·exact ⟨o, k₂ _ _ (f₁ _ q), fun h' k e => r h' ((k₁.trans k₂).trans k) e⟩
  ·exact p₂ e me
theorem tab_of {w : World} {g : Heap} : ∀ {tb : Tb}, (∀ e ∈ InnE w tb, e.2 g) → (∀ x ∈ tb, (x.2.1 == sysModules) = false) → TabAre w g (kvsOf tb) (plainOf tb)
 | [], _, _ => .nil
 | x :: tb, h1, h2 => .cons (h1 (ArcsE w x.2.1 x.2.2) mem0) (h2 x mem0) (tab_of (fun e me => h1 e (.tail _ me)) fun y my => h2 y (.tail _ my))
noncomputable def Ab.dfa (a : Ab) : Dfa := ⟨a.tr, fun q => decide (∃ i ∈ a.fin, q = some i)⟩
section
variable {w : World} {A : Around} {E : Value → Shared → Prop} {R : Result → Shared → Prop} {Rf : Result → Shared → Prop} {K : Frag} {mg mb : Str → Option Value} {gs : Array GenState} {dr : Drawn} {os : OsState}
 {V : Addr → Prop} {g₀ h₀ g h : Heap} {t : Tok} {L : Addr} {m : Str → Option Value} {ow fo : List Ent} {outer : List Env}
theorem word_bad (kf : KF6 K) (B : Base w K mg mb g) (hh : A.handled = none) (hfr : A.frames = some outer) (FO : FrIn outer ow) (C : Cur V g₀ h₀ L g h m ow) {last wd : List Nat} {tl tw : Tok} (hl : m "last" = some (.str (st last) tl)) (hs : m "string" = some (.str (st wd) tw)) (hn : ¬ last < wd) {Q : Flow → Shared → Prop}
  (H : ∀ h' t' e base, (∃ tp, Heap.FlyingW base outer e (.type "Exception") tp h') → (∀ b o, ¬ frs (eDf L :: outer) b → h.get? b = some o → base.get? b = some o) → (∀ b, frs (eDf L :: outer) b → base.get? b = none) → (∀ a m, h.Ns a m → h'.Ns a m) → Rf (.error (.ref e)) ⟨h', gs, dr, t', os⟩) :
  wpAny (model P w) (A.deeper (eDf L)) (execs dfaBody (eDf L)) Q (notedBy (model P w) (A.deeper (eDf L)) (eDf L) (fun e s' => cameBackBy (model P w) (A.deeper (eDf L)) (eDf L) (fun e s' => wpAny (model P w) (A.deeper (eDf L)) (leaving (eDf L) e) (fun _ s'' => Rf (.error e) s'') (fun e' s'' => Rf (.error e') s'') s') e s')) ⟨h, gs, dr, t, os⟩ := by
 refine wpAny_execs_cons (wpAny_If (wpAny_isTrue_Compare1 (nameL C hs (nameL C hl (PySem.P.le_str (wpAny_truthy_bool ?_))))))
 have e0 : (!decide ((st last).cps.toList < (st wd).cps.toList)) = true := by
  rw [Bool.not_eq_true', decide_eq_false_iff_not]; exact hn
 rw [e0]
 refine wpAny_execs_cons (Raise_madeB PySem.F.excCall_Exception PySem.F.excRaise_Exception hh (nameB C.X.gh B (kf.bn "Exception" (by decide)) bt_Exception (by decide) ⟨rfl, wpAny_items_cons (constS fun t₁ => wpAny_items_nil ⟨(by show 1 ≤ sizeLine; decide), fun h' e hx => ?_⟩)⟩))
 exact raise_out (A := A.deeper (eDf L)) (env := eDf L) (Around.frames_deeper hfr) rfl (C.frsOk (by show (fnOfSt (topSt 7)).scope.kind ≠ .module; decide) rfl FO) hx.newExc fun h₂ base a b c d => H h₂ _ e base a b c d
theorem Cur.re {ow' : List Ent} (C : Cur V g₀ h₀ L g h m ow) (p : (ow'.map (·.1)).Perm (ow.map (·.1))) (f : ∀ e ∈ ow', EntAt g h e) : Cur V g₀ h₀ L g h m ow' := by
 have back : ∀ e ∈ ow', ∃ e' ∈ ow, e'.1 = e.1 := fun e me => by
  obtain ⟨e', me', z⟩ := List.mem_map.mp (p.mem_iff.mp (List.mem_map_of_mem (f := fun x : Ent => x.1) me))
  exact ⟨e', me', z⟩
 exact ⟨C.X, C.F, C.new, C.O.re p f, fun e me => by obtain ⟨e', me', z⟩ := back e me; rw [← z]; exact C.nL e' me', fun e me => by obtain ⟨e', me', z⟩ := back e me; rw [← z]; exact C.vis e' me'⟩
noncomputable def OutE (w : World) (U : Addr) : Ent := (U, fun h => h.DictOf (IK w) U [])
theorem dfa_setup (kf : KF6 K) (B : Base w K mg mb g) (hroom : A.depth + 2 < recursionLimit) (C : Cur V g₀ h₀ L g h m fo) {Q : Flow → Shared → Prop} {rest : List Stmt} {tl : Value} (hst : m "strings" = some tl)
  (H : ∀ g' h' t' m' d dx T Df F U tk nn sn N b, Keep g g' → Inst g' d 245 dx (dfaEs w tk T Df F U) nn → g'.DictOf (IK w) Df [] → (T == sysModules) = false → (Df == sysModules) = false → (sn == sysModules) = false → h₀.get? U = none →
   Cur V g₀ h₀ L g' h' m' (ownB w F sn N T (fo ++ [OutE w U]) b) → BdOk w g' b → Rep b Sb.init.ab → DfV m' d N sn 0 [] → m' "strings" = some tl → wpAny (model P w) (A.deeper (eDf L)) (execs rest (eDf L)) Q E ⟨h', gs, dr, t', os⟩) :
  wpAny (model P w) (A.deeper (eDf L)) (execs ((fnOfSt (topSt 7)).body.getD 0 (.Pass default) :: (fnOfSt (topSt 7)).body.getD 1 (.Pass default) :: (fnOfSt (topSt 7)).body.getD 2 (.Pass default) :: (fnOfSt (topSt 7)).body.getD 3 (.Pass default) :: (fnOfSt (topSt 7)).body.getD 4 (.Pass default) :: rest) (eDf L)) Q E ⟨h, gs, dr, t, os⟩ := by
 refine wpAny_execs_cons (assignL (callG1 C.X.gh B kf.gDfa kf.dfa.kp (constI fun t₁ => ⟨B.X.keeps C.X.gh, dfa_init kf.toKF2 C.X.gh B hroom (c := 0) fun g₂ h₂ t₂ d dx T Df F U tk nn x₂ I₂ hDf O₂ hnew => ?_⟩)))
 have B₂ := B.keeps x₂.gg
 have hn : ∀ a ∈ [d, dx, T, Df, F, U], h₀.get? a = none := fun a ma => by
  cases q : h₀.get? a with
  | none => rfl
  | some o => exact absurd (hnew a ma) (C.X.live a (by rw [q]; exact Option.some_ne_none _))
 have C₂ := (C.eq (ow' := fo ++ []) (by rw [List.append_nil])).call x₂ (fun _ v => v.elim) O₂ fun e me => by
  simp only [List.mem_cons, List.not_mem_nil, or_false] at me
  rcases me with rfl | rfl | rfl
  ·exact .inr (hnew T mem2)
  ·exact .inr (hnew F mem4)
  ·exact .inr (hnew U mem5)
 have hsT : (T == sysModules) = false := B.newSys C.X.gh (hnew T mem2)
 have hsD : (Df == sysModules) = false := B.newSys C.X.gh (hnew Df mem3)
 refine storeL C₂ fun h₃ t₃ C₃ _ => ?_
 refine wpAny_execs_cons (assignL (constI fun t₄ => storeL C₃ fun h₅ t₅ C₅ _ => ?_))
 refine wpAny_execs_cons (assignL (constS fun t₆ => storeL C₅ fun h₇ t₇ C₇ _ => ?_))
 refine wpAny_execs_cons (assignL (dict0O C₇ fun sn h₈ C₈ hsn k₈ => storeL C₈ fun h₉ t₉ C₉ _ => ?_))
 have hsS : (sn == sysModules) = false := B₂.newSys C₇.X.gh hsn
 refine wpAny_execs_cons (assignL (wpAny_List (wpAny_items_cons (callG1 C₉.X.gh B₂ kf.gNode kf.node.kp (constI fun t₁₀ => ⟨B₂.X.keeps C₉.X.gh, node_spec kf.toKF2 C₉.X.gh B₂ hroom fun g₁₁ h₁₁ t₁₁ nx ndx nar x₁₁ hnx O₁₁ ndxn narn _ => wpAny_items_nil ⟨(by show 1 ≤ sizeLine; decide), ?_⟩⟩)))))
 have C₁₁ := (C₉.eq (ow' := (exEnt sn (dictOf [] 0) :: (fo ++ [(T, fun h => h.DictOf (IK w) T []), (F, fun h => h.SetOf (oik w) F (fun _ => false) 0), (U, fun h => h.DictOf (IK w) U [])])) ++ []) (by rw [List.append_nil])).call x₁₁ (fun _ v => v.elim) O₁₁ fun e me => by
  rcases List.mem_cons.mp me with rfl | me
  ·exact .inr ndxn
  ·rw [List.mem_singleton.mp me]; exact .inr narn
 obtain ⟨C₁₂, _⟩ := C₁₁.alloc (o := { cls := .type "list", data := .seq #[.ref nx] }) (Pr := fun h => h.PlainList h₁₁.objs.size (rowOf [⟨nx, ndx, nar, 0, false, []⟩]).toArray) rfl fun h' _ e => ⟨0, e⟩
 refine storeL C₁₂ fun h₁₃ t₁₃ C₁₃ _ => ?_
 have C₁₄ := C₁₃.re (ow' := ownB w F sn h₁₁.objs.size T (fo ++ [OutE w U]) ⟨fun _ => false, 0, [], [], [⟨nx, ndx, nar, 0, false, []⟩]⟩) ?_ ?_
 ·refine H g₁₁ h₁₃ t₁₃ _ d dx T Df F U tk nn sn h₁₁.objs.size _ (x₂.gg.trans x₁₁.gg) (I₂.keeps x₁₁.gg) (hDf.keep x₁₁.gg) hsT hsD hsS (hn U mem5) C₁₄ ⟨(fun _ m => absurd m List.not_mem_nil), fun nd md => ?_⟩ ⟨fun q => by simp [Sb.init], Nat.le_refl _, .nil, rfl, rfl⟩
   ⟨oth (oth (oth (oth sam))), sam, oth sam, ⟨t₄, oth (oth (oth sam))⟩, ⟨t₆, oth (oth sam)⟩⟩ (oth (oth (oth (oth (oth hst)))))
  rw [List.mem_singleton.mp md]
  exact ⟨hnx, B₂.newSys C₉.X.gh narn⟩
 ·have e1 : (ownB w F sn h₁₁.objs.size T (fo ++ [OutE w U]) ⟨fun _ => false, 0, [], [], [⟨nx, ndx, nar, 0, false, []⟩]⟩).map (·.1) = fo.map (·.1) ++ [U, F, sn, h₁₁.objs.size, ndx, nar, T] := by
   simp [ownB, OutE, FinE, SeenE, RowE, NdEs, NdE, NodeD, ArcsE, TabE, InnE]
  rw [e1]
  simp only [List.map_cons, List.map_append, List.map_nil, exEnt]
  have e2 : h₁₁.objs.size :: (sn :: (fo.map (·.1) ++ [T, F, U]) ++ [(NodeD w ndx 0 nar false).1, (ArcsE w nar []).1]) = [h₁₁.objs.size, sn] ++ (fo.map (·.1) ++ [T, F, U, ndx, nar]) := by simp [NodeD, ArcsE]
  have key : ∀ (X : List Addr) (a b c d e f g : Addr), (X ++ [a, b, c, d, e, f, g]).Perm ([d, c] ++ (X ++ [g, b, a, e, f])) := by
   intro X a b c d e f g
   refine List.Perm.trans ?_ (List.perm_append_comm_assoc X [d, c] _)
   refine List.Perm.append_left X ?_
   exact List.perm_iff_count.mpr fun x => by simp [List.count_cons]; lia
  have := key (fo.map (·.1)) U F sn h₁₁.objs.size ndx nar T
  rw [← e2] at this
  exact this
 ·intro e me
  have at_ : ∀ e ∈ (h₁₁.objs.size, fun h : Heap => h.PlainList h₁₁.objs.size (rowOf [⟨nx, ndx, nar, 0, false, []⟩]).toArray) :: ((exEnt sn (dictOf [] 0) :: (fo ++ [(T, fun h => h.DictOf (IK w) T []), (F, fun h => h.SetOf (oik w) F (fun _ => false) 0), (U, fun h => h.DictOf (IK w) U [])])) ++ [NodeD w ndx 0 nar false, ArcsE w nar []]), EntAt g₁₁ h₁₃ e := C₁₃.O.at_
  have me' : e ∈ fo ∨ e = OutE w U ∨ e = FinE w F (fun _ => false) 0 ∨ e = SeenE w sn [] ∨ e = RowE h₁₁.objs.size [⟨nx, ndx, nar, 0, false, []⟩] ∨ e = NodeD w ndx 0 nar false ∨ e = ArcsE w nar [] ∨ e = TabE w T [] := by
   simpa [ownB, NdEs, NdE, InnE] using me
  rcases me' with me | rfl | rfl | rfl | rfl | rfl | rfl | rfl
  ·exact at_ e (.tail _ (memL (.tail _ (memL me))))
  ·exact at_ (U, fun h => h.DictOf (IK w) U []) (.tail _ (memL (.tail _ (memR mem2))))
  ·exact at_ (F, fun h => h.SetOf (oik w) F (fun _ => false) 0) (.tail _ (memL (.tail _ (memR mem1))))
  ·obtain ⟨o, q, r⟩ := at_ (exEnt sn (dictOf [] 0)) (.tail _ (memL mem0))
   exact ⟨o, q, fun h' k e => ⟨_, #[], 0, r h' k e, ⟨rfl, rfl, rfl⟩, rfl, rfl, (fun _ m => absurd m List.not_mem_nil), List.nodup_nil⟩⟩
  ·exact at_ (h₁₁.objs.size, fun h : Heap => h.PlainList h₁₁.objs.size (rowOf [⟨nx, ndx, nar, 0, false, []⟩]).toArray) mem0
  ·exact at_ (NodeD w ndx 0 nar false) (.tail _ (memR mem0))
  ·exact at_ (ArcsE w nar []) (.tail _ (memR mem1))
  ·exact at_ (T, fun h => h.DictOf (IK w) T []) (.tail _ (memL (.tail _ (memR mem0))))
end
end
section
open PySem PySem.W PyProof.Rows
section
variable {w : World} {A : Around} {E : Value → Shared → Prop} {R : Result → Shared → Prop} {K : Frag} {mg mb : Str → Option Value} {gs : Array GenState} {dr : Drawn} {os : OsState}
 {V : Addr → Prop} {g₀ h₀ g h : Heap} {t : Tok} {L : Addr} {m : Str → Option Value} {fo : List Ent} {F sn N T d dx Df U : Addr} {tk : Nat → Tok} {nn : Nat} {outer : List Env}
theorem dfa_end (kf : KF6 K) (B : Base w K mg mb g) (hroom : A.depth + 2 < recursionLimit) (hu : A.units + 60 < cLine) (hh : A.handled = none) (hfr : A.frames = some outer) (FO : FrIn outer fo)
  (I : Inst g d 245 dx (dfaEs w tk T Df F U) nn) (hsT : (T == sysModules) = false) (hsS : (sn == sysModules) = false) {b : Bd} {s : Sb} {a' : Ab}
  (C : Cur V g₀ h₀ L g h m (ownB w F sn N T fo b)) (OK : BdOk w g b) (RP : Rep b s.ab) (hV : DfV m d N sn s.c s.last) (hnl : s.ab.ns.length ≤ 1000) (hc : Closes s a') {Q : Flow → Shared → Prop}
  (H : ∀ g' h' t' b', Keep g g' → Cur V g₀ h₀ L g' h' m (ownB w F sn N T fo b') → BdOk w g' b' → Rep b' a' → Q (.ret (.ref d)) ⟨h', gs, dr, t', os⟩) :
  wpAny (model P w) (A.deeper (eDf L)) (execs [(fnOfSt (topSt 7)).body.getD 6 (.Pass default), (fnOfSt (topSt 7)).body.getD 7 (.Pass default)] (eDf L)) Q E ⟨h, gs, dr, t, os⟩ := by
 have hrow : h.PlainList N (rowOf b.ns).toArray := C.get (RowE N b.ns) (by simp [ownB])
 have rlen : (rowOf b.ns).toArray.size = b.ns.length := by simp [rowOf]
 have blen : b.ns.length = s.ab.ns.length := by rw [← RP.ns, List.length_map]
 obtain ⟨tl, hl⟩ := hV.last
 refine wpAny_execs_cons (wpAny_If (wpAny_isTrue_Compare1 (callF1 C.X.gh B (kf.bn "len" (by decide)) bt_len (by decide) (nameL C hV.nodes ?_))))
 refine Calls.call_len_list (s := ⟨h, gs, dr, t, os⟩) hrow.isList (by rw [rlen]; lia) (constI fun t₁ => PyProof.Rows.gt_int (wpAny_truthy_bool ?_))
 rw [rlen]
 unfold Closes at hc
 by_cases h1 : 1 < s.ab.ns.length
 ·rw [if_pos h1] at hc
  rw [decide_eq_true (show (1 : Int) < (b.ns.length : Int) by lia)]
  have C' : Cur V g₀ h₀ L g h m ([] ++ ownB w F sn N T fo b) := C
  have O' := C'.ownL
  refine wpAny_execs_cons (wpAny_Expr (call_sfx kf C.X.gh B (fun Q' hq => nameL C hV.dfa hq) (fun Q' hq => nameL C hV.nodes hq) (fun Q' hq => nameL C hl hq) (constI fun t₅ => ⟨_, rfl, nameL C hV.seen ⟨B.X.keeps C.X.gh, ?_⟩⟩)))
  refine add_suffix_spec (A := A.deeper (eDf L)) (dt := 0) (lst := s.last) (outer := eDf L :: outer) (fo := FrE L _ :: fo) (F := F) (Df := Df) (U := U) kf.toKF5 C.X.gh B hroom (by show A.units + 3 + 30 < cLine; lia) hh (Around.frames_deeper hfr) (fun env me => ?_) I hsT hsS O' OK RP hc (by lia) fun g₆ h₆ t₆ b₆ x₆ O₆ n₆ OK₆ RP₆ => ?_
  ·rcases List.mem_cons.mp me with rfl | me
   ·exact ⟨(by show (fnOfSt (topSt 7)).scope.kind ≠ .module; decide), (exI2 L _ ⟨rfl, mem0⟩)⟩
   ·(refine anE2 (FO env me) fun a1 zr1 => exE2 zr1 fun L' m' zr2 => anE2 zr2 fun a2 a3 => ?_; clear zr2 zr1)
    exact ⟨a1, (exI2 L' m' ⟨a2, (.tail _ a3)⟩)⟩
  have C₆ : Cur V g₀ h₀ L g₆ h₆ m ([] ++ ownB w F sn N T fo b₆) := C'.callL x₆ (fun _ v => v) O₆ n₆
  have C₆' := C₆.eq (List.nil_append _)
  exact wpAny_execs_nil (wpAny_execs_cons (wpAny_Return_some (nameL C₆' hV.dfa (H g₆ h₆ t₆ b₆ x₆.gg C₆' OK₆ RP₆))))
 ·rw [if_neg h1] at hc
  rw [decide_eq_false (show ¬ (1 : Int) < (b.ns.length : Int) by lia)]
  exact wpAny_execs_nil (wpAny_execs_cons (wpAny_Return_some (nameL C hV.dfa (H g h _ b (Keep.refl _) C OK (hc ▸ RP)))))
theorem strings_dfa_spec (kf : KF6 K) (gh : Keep g h) (B : Base w K mg mb g) (hroom : A.depth + 2 < recursionLimit) (hu : A.units + 60 < cLine) (hh : A.handled = none) (hfr : A.frames = some outer) (FO : FrIn outer fo) (hfo : ∀ e ∈ fo, frs outer e.1) (O : Own g h fo)
  {l : Addr} {items : Array Value} {ws : List (List Nat)} (hl : g.IsList l items) (hsz : items.size = ws.length) (hit : ∀ (i : Nat) v, items[i]? = some v → ∃ wd t, ws[i]? = some wd ∧ v = .str (st wd) t) {r : Option Sb} (hg : Goes Sb.init ws r)
  (H1 : ∀ s, r = some s → ∃ a', Closes s a' ∧ ∀ g' h' t' d dx T Df F U, Ext (adr fo) g h g' h' → Own g' h' (fo ++ [OutE w U]) → h.get? U = none → DfaAt w g' d dx T Df F U a'.dfa → R (.ok (.ret (.ref d))) ⟨h', gs, dr, t', os⟩)
  (H2 : r = none → ∀ h' t' e base, (∃ tp, Heap.FlyingW base outer e (.type "Exception") tp h') → (∀ b o, ¬ frs outer b → h.get? b = some o → base.get? b = some o) → (∀ b, frs outer b → base.get? b = none) → (∀ L' m', FrE L' m' ∈ fo → h'.Ns L' m') → R (.error (.ref e)) ⟨h', gs, dr, t', os⟩) :
  codeAny (model P w) A (.call (.ref 282) ⟨[.ref l], []⟩) R ⟨h, gs, dr, t, os⟩ := by
 refine enter (adr fo) fo O (fun e me => ⟨e, me, rfl⟩) (binds := [("strings", .ref l)]) gh B.X B.lim kf.fDfaF (by lia) (fun pm => .of_eq (by with_unfolding_all rfl)) (by rfl) (fun h₁ L t₁ C k₁ => ?_) (by rfl) (by rfl) (by rfl) (by decide +kernel)
 refine dfa_setup kf B hroom C (tl := .ref l) (by rfl) fun g₂ h₂ t₂ m₂ d dx T Df F U tk nn sn N b₀ k₂ I₂ hDf hsT hsD hsS hU C₂ OK₂ RP₂ V₂ hst₂ => ?_
 have B₂ := B.keeps k₂
 refine wpAny_execs_cons (wpAny_For (nameL C₂ hst₂ (forList hh C₂ (hl.at fun o e => k₂ _ _ e) fun it h₃ fe St C₃ FP => ?_)))
 have FO' : FrIn outer (fo ++ [OutE w U]) := FO.mono fun e me => memL me
 refine forLoop (FP.feed "string" _ (by rfl)) (fun i g' m' ow => ∃ b s, ow = ownB w F sn N T (fo ++ [OutE w U]) b ∧ BdOk w g' b ∧ Rep b s.ab ∧ DfV m' d N sn s.c s.last ∧ Goes s (ws.drop i) r) C₃ rfl FP.new FP.st
  (exI2 b₀ Sb.init (anI5 rfl OK₂ RP₂ V₂ hg)) (fun i g₅ h₅ mx m₅ ow fe₅ t₅ hi k₅ hj hp C₅ => ?_) (fun g₅ h₅ m₅ ow t₅ k₅ hj C₅ => ?_)
 ·(refine exE2 hj fun b s zr4 => anE5 zr4 fun ze3 OK₅ RP₅ V₅ hgo => ?_; clear hj zr4; subst ze3)
  obtain ⟨v, hv, rfl⟩ := hp
  (refine exE2 (hit i v hv) fun wd tw zr6 => anE2 zr6 fun hwd ze5 => ?_; clear zr6; subst ze5)
  have hdrop : ws.drop i = wd :: ws.drop (i + 1) := by
   obtain ⟨hlt, e⟩ := List.getElem?_eq_some_iff.mp hwd
   rw [← e]; exact List.drop_eq_getElem_cons hlt
  rw [hdrop] at hgo
  have B₅ := B₂.keeps k₅
  have C₅' := C₅.eq ownB_app
  have V₅' := V₅.up (y := "string") (v := .str (st wd) tw)
  rcases hgo.inv_cons with ⟨hr0, hn⟩ | zc
  ·obtain ⟨tl, hlast⟩ := V₅'.last
   have FO₅ : FrIn outer (ownB w F sn N T (fe₅ ++ (fo ++ [OutE w U])) b) := FO'.mono fun e me => by
    rw [← ownB_app]
    exact memR (memL (memL me))
   refine word_bad (A := A) kf B₅ hh hfr FO₅ C₅' hlast sam hn fun h₆ t₆ e base hfl hk hnone hns => ?_
   refine H2 hr0 h₆ t₆ e base hfl (fun b' o nf q => ?_) (fun b' fb => hnone b' (frs_tail fb)) fun L' m' me => hns L' m' (C₅'.get (FrE L' m') ?_)
   ·have hbL : b' ≠ L := fun z => by rw [z, C.new] at q; cases q
    refine hk b' o (fun z => ?_) (C₅'.X.old b' o (fun ⟨e', me', z⟩ => nf (z ▸ hfo e' me')) q)
    unfold frs at z
    rw [List.filterMap_cons] at z
    rcases List.mem_cons.mp z with z | z
    ·exact hbL z
    ·exact nf z
   ·rw [← ownB_app]
    exact memR (memL (memL (memL me)))
  ·refine Exists.elim zc fun a zc => anE8 zc fun hlt hz hz' hnl hp hne RM hgo' => ?_
   clear zc
   have FO₅ : FrIn outer (fe₅ ++ (fo ++ [OutE w U])) := FO'.mono fun e me => memR me
   refine word_ok (A := A) kf B₅ hroom hu hh hfr FO₅ (I₂.keeps k₅) hsT hsS C₅' OK₅ RP₅ V₅' sam hlt hz hz' hnl hp hne RM fun g₆ h₆ t₆ m₆ b₆ k₆ C₆ OK₆ RP₆ V₆ => ?_
   exact ⟨g₆, h₆, m₆, _, t₆, rfl, k₆, C₆.eq ownB_app.symm, b₆, _, rfl, OK₆, RP₆, V₆, hgo'⟩
 ·(refine exE2 hj fun b s zr8 => anE5 zr8 fun ze7 OK₅ RP₅ V₅ hgo => ?_; clear hj zr8; subst ze7)
  rw [hsz, List.drop_length] at hgo
  ·obtain ⟨hr0, hnl, hz⟩ := hgo.inv_nil
   obtain ⟨a', hcl, H1⟩ := H1 s hr0
   refine wpAny_execs_nil ?_
   refine dfa_end (A := A) kf (B₂.keeps k₅) hroom hu hh hfr FO' (I₂.keeps k₅) hsT hsS C₅ OK₅ RP₅ V₅ hnl hcl fun g₆ h₆ t₆ b₆ k₆ C₆ OK₆ RP₆ => ?_
   have offsys : ∀ e ∈ ownB w F sn N T (fo ++ [OutE w U]) b₆, (e.1 == sysModules) = false := fun e me => by
    rw [beq_eq_false_iff_ne]
    intro z
    have := C₆.O.off e me
    rw [z] at this
    exact live_of_keep ((k₂.trans k₅).trans k₆) _ B.sm this
   have C₆' := C₆.eq (ow' := (fo ++ [OutE w U]) ++ ((FinE w F b₆.S b₆.k :: SeenE w sn b₆.xs :: RowE N b₆.ns :: NdEs w b₆.ns) ++ (TabE w T b₆.tb :: InnE w b₆.tb))) (by unfold ownB; rw [List.append_assoc])
   (refine Exists.elim C₆'.freezeAll fun g₇ zr9 => anE3 zr9 fun C₇ k₇ fz => ?_; clear zr9)
   have now : ∀ e ∈ (FinE w F b₆.S b₆.k :: SeenE w sn b₆.xs :: RowE N b₆.ns :: NdEs w b₆.ns) ++ (TabE w T b₆.tb :: InnE w b₆.tb), e.2 g₇ := fun e me => (fz e me).now (Keep.refl _)
   refine H1 g₇ h₆ t₆ d dx T Df F U C₇.X C₇.O ?_ ⟨(exI2 tk nn (I₂.keeps ((k₅.trans k₆).trans k₇))), ⟨kvsOf b₆.tb, now (TabE w T b₆.tb) (by simp), ?_⟩, hDf.keep ((k₅.trans k₆).trans k₇), ⟨b₆.k, ?_⟩, hsT, hsD⟩
   ·exact hU
   ·have : TabAre w g₇ (kvsOf b₆.tb) (plainOf b₆.tb) := tab_of (fun e me => now e (by simp [me])) fun x mx => offsys (ArcsE w x.2.1 x.2.2) (by
     unfold ownB InnE
     exact memR (.tail _ (List.mem_map_of_mem (f := fun x : Int × Addr × List (Nat × Int) => ArcsE w x.2.1 x.2.2) mx)))
    rw [RP₆.tb] at this
    exact this
   ·have hF : g₇.SetOf (oik w) F b₆.S b₆.k := now (FinE w F b₆.S b₆.k) (by simp)
    have e : b₆.S = a'.dfa.fin := by
     funext q
     have := RP₆.fin q
     show b₆.S q = decide (∃ i ∈ a'.fin, q = some i)
     cases hq : b₆.S q with
     | true => rw [decide_eq_true (this.mp hq)]
     | false => rw [decide_eq_false (fun z => by rw [this.mpr z] at hq; cases hq)]
    rw [← e]; exact hF
end
end
section
open PySem PySem.W PyProof.Rows
section
variable {w : World} {A : Around} {E : Value → Shared → Prop} {h : Heap} {gs : Array GenState} {dr : Drawn} {t : Tok} {os : OsState} {T : String} {r d : Addr} {n : Nat} {Pv : Nat → Value → Prop} {OK : Heap → Prop}
theorem sorted_texts {Dp : Drawn → Prop} {v : Value} {ss : List Str} {Q : Value → Shared → Prop}
  (hc : ∀ (R : List Value → Shared → Prop), (∀ h' d' t' vs ss', Dp d' → Keep h h' → StrsAre vs ss' → ss'.Perm ss → R vs ⟨h', gs, d', t', os⟩) → wpAny (model P w) A.in1 (collect v) R E ⟨h, gs, dr, t, os⟩) (h64 : ss.length < 64)
  (H : ∀ h' d' t' B vs ss' e, Dp d' → Keep h h' → h.get? B = none → h'.get? B = some (seqObj "list" vs e) → StrsAre vs.toList ss' → ss'.Perm ss → sortedS ss' = true → Q (.ref B) ⟨h', gs, d', t', os⟩) :
  wpAny (model P w) A (call (.builtin "sorted") [v]) Q E ⟨h, gs, dr, t, os⟩ := by
 refine Calls.call_function_entry kind_sorted plain_sorted entry_sorted (args_sorted1 _) ?_
 unfold Builtin.«sorted»
 refine wpAny_bind (m := checkCount "sorted" 1 1 _) (wpAny_pure ?_)
 refine wpAny_bind (hc _ fun h₁ d₁ t₁ vs ss₁ hd₁ k₁ hS p₁ => ?_)
 have hlen : vs.length < 64 := by rw [hS.length, p₁.length_eq]; exact h64
 refine wpAny_bind (wpAny_newList ?_ (by rw [sizeLine_eq]; lia))
 have kp := Keep.push h₁ (seqObj "list" vs.toArray 0)
 have hB : (h₁.push (seqObj "list" vs.toArray 0)).get? h₁.objs.size = some (seqObj "list" vs.toArray 0) := Heap.get?_push_size _ rfl
 have hBn : h.get? h₁.objs.size = none := by
  cases q : h.get? h₁.objs.size with
  | none => rfl
  | some o => exact absurd (k₁ _ _ q) (by rw [size_none]; exact fun z => by cases z)
 refine wpAny_bind (wpAny_holding (wpAny_call_entry slot_list_sort ⟨_, hB, rfl⟩ entry_list_sort ?_ (args_list_sort _)))
 refine list_sort_treeK (s := ⟨h₁.push (seqObj "list" vs.toArray 0), gs, d₁, t₁, os⟩) strKind_oneLt hB hS.keysOf (fun v₁ v₂ rest e => keyKind_strs (by rw [← e]; exact hS)) hlen fun st' hp hs => ?_
 (refine Exists.elim (sorted_out_str hS hp hs) fun ss' zr5 => anE3 zr5 fun a1 a2 a3 => ?_; clear zr5)
 have ko : ∀ b o, b ≠ h₁.objs.size → (h₁.push (seqObj "list" vs.toArray 0)).get? b = some o → (sortedHeap (h₁.push (seqObj "list" vs.toArray 0)) h₁.objs.size vs ((arrOf st').map (·.2))).get? b = some o := fun b o nb e => by
  rw [sortedHeap_old nb (Heap.lt_size e)]; exact e
 obtain ⟨e', he'⟩ := sortedHeap_at (vs := vs) (out := (arrOf st').map (·.2)) hB
 exact ⟨.none, rfl, wpAny_pure ⟨_, rfl, H _ _ _ _ _ ss' e' hd₁ (fun b o q => ko b o (fun z => by rw [z, hBn] at q; cases q) (kp _ _ (k₁ _ _ q))) hBn he' a1 (a2.trans p₁) a3⟩⟩
end
end
section
open PySem PySem.W PyProof.Rows
noncomputable def bis (ls : List Nat) (c : Nat) : Nat := (ls.takeWhile fun x => decide (x < c)).length
theorem bis_le (ls : List Nat) (c : Nat) : bis ls c ≤ ls.length := by
 unfold bis
 induction ls with
 | nil => simp
 | cons a l ih =>
  rw [List.takeWhile_cons]
  split
  ·simpa using ih
  ·simp
theorem bis_next : ∀ (ls : List Nat) (c k : Nat), k ≤ bis ls c → ((∃ x, ls[k]? = some x ∧ x < c) ↔ k < bis ls c)
 | [], c, k, h => by simp [bis]
 | a :: l, c, k, h => by
  unfold bis at h ⊢
  rw [List.takeWhile_cons] at h ⊢
  by_cases e : a < c
  ·rw [if_pos (decide_eq_true e)] at h ⊢
   cases k with
   | zero => simp [e]
   | succ k =>
    have := bis_next l c k (by simpa [bis] using h)
    unfold bis at this
    simpa using this
  ·rw [if_neg (by simpa using e)] at h ⊢
   have : k = 0 := by simpa using h
   subst this
   simp [e]
theorem bis_get (ls : List Nat) (c : Nat) : ls[bis ls c]? = ls.find? fun x => decide (c ≤ x) := by
 unfold bis
 induction ls with
 | nil => simp
 | cons a l ih =>
  rw [List.takeWhile_cons, List.find?_cons]
  by_cases e : a < c
  ·have : ¬ c ≤ a := by omega
   simp [e, this, ih]
  ·have : c ≤ a := by omega
   simp [e, this]
noncomputable def LabsAt (h : Heap) (a : Addr) (ls : List Nat) : Prop := ∃ vs e, h.get? a = some (seqObj "list" vs e) ∧ StrsAre vs.toList (ls.map ch)
theorem LabsAt.keeps {g h : Heap} {a ls} (x : LabsAt g a ls) (k : Keep g h) : LabsAt h a ls := by obtain ⟨vs, e, q, r⟩ := x; exact ⟨vs, e, k _ _ q, r⟩
theorem LabsAt.isList {h : Heap} {a ls} (x : LabsAt h a ls) : ∃ vs : Array Value, h.IsList a vs ∧ vs.size = ls.length ∧ ∀ (k c : Nat), ls[k]? = some c → ∃ t, vs[k]? = some (.str (ch c) t) := by
 obtain ⟨vs, e, q, r⟩ := x
 refine ⟨vs, (anI3 ⟨_, q, rfl, _, rfl⟩ (by have := r.length; simpa using this) (fun k c hk => ?_))⟩
 obtain ⟨t, e⟩ := r.get k (ch c) (by rw [List.getElem?_map, hk]; rfl)
 exact ⟨t, by simpa using e⟩
structure KF7 (K : Frag) : Prop extends KF6 K where
 fBis : HasFn K 28 "bisect_left" "bisect_left" (fnOfSt (topSt 2)) .none (.ref 27)
 kBis : keepIn K (.ref 28) = true
 gBis : nsIn K mainGlobals "bisect_left" = some (some (.ref 28))
noncomputable abbrev eBis (L : Addr) : Env := envOf "bisect_left" (fnOfSt (topSt 2)).scope L 28 (.ref 27)
theorem ch_lt {a b : Nat} : decide ((ch a).cps.toList < (ch b).cps.toList) = decide (a < b) := by
 simp [ch, List.cons_lt_cons_iff, List.not_lt_nil]
section
variable {w : World} {A : Around} {E : Value → Shared → Prop} {R : Result → Shared → Prop} {K : Frag} {mg mb : Str → Option Value} {gs : Array GenState} {dr : Drawn} {os : OsState}
 {g h : Heap} {t : Tok}
theorem lenList {env : Env} {o : Expr} {p pos : Pos} {Q : Value → Shared → Prop} (gh : Keep g h) (kf : KF6 K) (B : Base w K mg mb g) {l : Addr} {items : Array Value} (hl : h.IsList l items) (hz : items.size ≤ 100000)
  (ho : ∀ Q', Q' (.ref l) ⟨h, gs, dr, t, os⟩ → wpAny (model P w) A (eval o env) Q' E ⟨h, gs, dr, t, os⟩) (H : ∀ t' tt, Q (.int items.size tt) ⟨h, gs, dr, t', os⟩)
  (h1 : starEach [o] env = (false, eval o env) :: starEach [] env := by rfl)
  (hg : env.globals = mainGlobals := by rfl) (hb : env.builtins = builtinsNs := by rfl) (hk : env.scope.kind = .function := by rfl) (hx : env.kindOf "len" = some .globalImplicit := by rfl) :
  wpAny (model P w) A (eval (.Call (.Name "len" p) [o] [] pos) env) Q E ⟨h, gs, dr, t, os⟩ :=
 callF1 gh B (kf.bn "len" (by decide)) bt_len (by decide) (ho _ (Calls.call_len_list (s := ⟨h, gs, dr, t, os⟩) hl (by omega) (H _ _))) h1 hg hb hk hx
theorem itemList {env : Env} {o : Expr} {x : Str} {p pos : Pos} {Q : Value → Shared → Prop} {l : Addr} {items : Array Value} {ti : Tok} {k : Nat} {v : Value} (hl : h.IsList l items) (hc : items[k]? = some v) (hz : items.size ≤ 100000)
  (ho : ∀ Q', Q' (.ref l) ⟨h, gs, dr, t, os⟩ → wpAny (model P w) A (eval o env) Q' E ⟨h, gs, dr, t, os⟩)
  (hi : ∀ Q', Q' (.int (k : Nat) ti) ⟨h, gs, dr, t, os⟩ → wpAny (model P w) A (eval (.Name x p) env) Q' E ⟨h, gs, dr, t, os⟩) (H : Q v ⟨h, gs, dr, t, os⟩)
  (ht : ∀ o' r, letTemporaryGo o o' r = pure () := by intro _ _; rfl) : wpAny (model P w) A (eval (.Subscript o (.Name x p) pos) env) Q E ⟨h, gs, dr, t, os⟩ := by
 refine wpAny_Subscript_Name_late (ho _ (hi _ ⟨"list", "list.__getitem__", list_getitem_lookup, hl.typeIs, wpAny_getItem_list (s := ⟨h, gs, dr, t, os⟩) hl (by omega) ?_ ?_ H⟩)) ht
 ·have := (Array.getElem?_eq_some_iff.mp hc).1
  omega
 ·simpa using hc
theorem bisect_spec (kf : KF7 K) (gh : Keep g h) (B : Base w K mg mb g) (hroom : A.depth < recursionLimit) {a : Addr} {ls : List Nat} (hl : LabsAt g a ls) (hz : ls.length ≤ 1000) {c : Nat} {tc : Tok}
  (H : ∀ g' h' t' tt, Ext RO g h g' h' → R (.ok (.ret (.int (bis ls c) tt))) ⟨h', gs, dr, t', os⟩) :
  codeAny (model P w) A (.call (.ref 28) ⟨[.ref a, .str (ch c) tc], []⟩) R ⟨h, gs, dr, t, os⟩ := by
 refine enter RO [] .nil (fun _ m => absurd m List.not_mem_nil) (binds := [("labels", .ref a), ("label", .str (ch c) tc)]) gh B.X B.lim kf.fBis hroom (fun pm => .of_eq (by with_unfolding_all rfl)) (by rfl) (fun h₁ L t₁ C _ => ?_) (by rfl) (by rfl) (by rfl) (by decide +kernel)
 have le := bis_le ls c
 refine wpAny_execs_cons (assignL (constI fun t₂ => storeL C fun h₂ t₃ C₂ _ => ?_))
 refine wpAny_execs_cons (wpAny_While (codeAny_whileLoop (fun n s => ∃ k h₁ m₁ t₁ t₂, s = ⟨h₁, gs, dr, t₁, os⟩ ∧ n = bis ls c - k ∧ k ≤ bis ls c ∧ Cur RO g h L g h₁ m₁ [] ∧ m₁ "labels" = some (.ref a) ∧ m₁ "label" = some (.str (ch c) tc) ∧ m₁ "pos" = some (.int (k : Nat) t₂)) ?_ _
  (exI5 0 h₂ _ _ t₂ (anI7 rfl rfl (Nat.zero_le _) C₂ (oth (by rfl)) (oth (by rfl)) sam))))
 intro n s hI
 refine opaqueQ fun Qt Et hQt _ => ?_
 (refine exE5 hI fun k h₃ m₃ t₃ t₄ zr3 => anE7 zr3 fun ze1 ze2 hk C₃ hL hc hp => ?_; clear hI zr3; subst ze1)
 (refine Exists.elim ((hl.keeps C₃.X.gh).isList) fun vs zr4 => anE3 zr4 fun isl hs at_ => ?_; clear zr4)
 have nx := bis_next ls c k hk
 have stop : ¬ k < bis ls c → ∀ t' (E' : Value → Shared → Prop), wpAny (model P w) (A.deeper (eBis L)) (execs [(fnOfSt (topSt 2)).body.getD 2 (.Pass default)] (eBis L)) (fun fl s' => R (.ok (.ret (match fl with | .ret v => v | _ => .none))) s') E' ⟨h₃, gs, dr, t', os⟩ := fun hn t' E' => by
  have : k = bis ls c := by omega
  rw [this] at hp
  exact wpAny_execs_cons (wpAny_Return_some (nameL C₃ hp (H g h₃ _ _ C₃.X)))
 refine isTrue_and (wpAny_isTrue_Compare1 (nameL C₃ hp (lenList C₃.X.gh kf.toKF6 B isl (by omega) (fun Q' hq => nameL C₃ hL hq) fun t₅ t₅' => PyProof.Rows.lt_int (wpAny_truthy_bool ?_))))
 by_cases c1 : k < ls.length
 ·rw [decide_eq_true (show ((k : Nat) : Int) < (vs.size : Int) by omega)]
  obtain ⟨b, hb⟩ : ∃ b, ls[k]? = some b := ⟨ls[k], List.getElem?_eq_getElem c1⟩
  obtain ⟨tb, hvb⟩ := at_ k b hb
  refine isTrue_and (wpAny_isTrue_Compare1 (itemList isl hvb (by omega) (fun Q' hq => nameL C₃ hL hq) (fun Q' hq => nameL C₃ hp hq) (nameL C₃ hc (PyProof.Rows.lt_str (wpAny_truthy_bool ?_)))))
  rw [ch_lt]
  by_cases c2 : b < c
  ·rw [decide_eq_true c2]
   refine isTrue_and_nil (hQt _ _ ?_)
   have hlt : k < bis ls c := nx.mp ⟨b, hb, c2⟩
   refine wpAny_execs_cons (wpAny_AugAssign_Name (wpAny_loadName_local (by rfl) (by rfl) C₃.F.ns hp (constI fun t₇ => PyProof.Rows.iadd_int (storeL C₃ fun h₈ t₈ C₈ _ => ?_))))
   exact wpAny_execs_nil ⟨bis ls c - (k + 1), by rw [ze2]; exact Nat.sub_lt_sub_left hlt (Nat.lt_succ_self k), k + 1, h₈, _, t₈, _, rfl, rfl, hlt, C₈, oth hL, oth hc, by rw [if_pos rfl]; rfl⟩
  ·rw [decide_eq_false c2]
   exact hQt _ _ (wpAny_execs_nil (stop (fun z => c2 (by obtain ⟨x, q, r⟩ := nx.mpr z; rw [hb] at q; cases q; exact r)) _ _))
 ·rw [decide_eq_false (show ¬ ((k : Nat) : Int) < (vs.size : Int) by omega)]
  exact hQt _ _ (wpAny_execs_nil (stop (fun z => c1 (by obtain ⟨x, q, r⟩ := nx.mpr z; exact (List.getElem?_eq_some_iff.mp q).1)) _ _))
end
end
section
open PySem PySem.W PyProof.Rows
theorem risingS_le : ∀ (l : List Str) (p : Str), risingS p l = true → ((p :: l).map (·.cps.toList)).Pairwise (· ≤ ·)
 | [], p, _ => by simp
 | x :: r, p, h => by
  unfold risingS at h
  rw [Bool.and_eq_true, Bool.not_eq_true', ltCps_eq, decide_eq_false_iff_not] at h
  have h' := h
  have ih := risingS_le r x h'.2
  have le : p.cps.toList ≤ x.cps.toList := h'.1
  rw [List.map_cons, List.pairwise_cons]
  refine ⟨fun y my => ?_, ih⟩
  rw [List.map_cons] at my ih
  rcases List.mem_cons.mp my with rfl | my
  ·exact le
  ·exact List.le_trans le ((List.pairwise_cons.mp ih).1 y my)
theorem sortedS_le (l : List Str) (h : sortedS l = true) : (l.map (·.cps.toList)).Pairwise (· ≤ ·) := by
 cases l with
 | nil => simp
 | cons x r => exact risingS_le r x h
theorem map_st (l : List (List Nat)) : (l.map st).map (fun x : Str => x.cps.toList) = l := by
 rw [List.map_map]
 conv => rhs; rw [← List.map_id l]
 exact List.map_congr_left fun x _ => by simp [st]
theorem cps_inj {a b : Str} (h : a.cps.toList = b.cps.toList) : a = b := by
 cases a; cases b; simpa [Array.toList_inj] using h
theorem sorted_is {ss' : List Str} {l : List (List Nat)} (hs : sortedS ss' = true) (hp : (ss'.map (·.cps.toList)).Perm l) (hl : l.Pairwise (· ≤ ·)) : ss' = l.map st := by
 have e : ss'.map (fun x : Str => x.cps.toList) = l := List.Perm.eq_of_pairwise (fun a b _ _ x y => List.le_antisymm x y) (sortedS_le _ hs) hl hp
 rw [← e, List.map_map]
 conv => lhs; rw [← List.map_id ss']
 exact List.map_congr_left fun x _ => by cases x; simp [st]
theorem ch_st (c : Nat) : ch c = st [c] := rfl
theorem up_sorted {l : List (Nat × Int)} (u : upL l) : ((l.map (·.1)).map fun c => [c]).Pairwise (· ≤ ·) := by
 rw [List.pairwise_map]
 exact List.Pairwise.imp (fun {a b} hab => by show ¬ [b] < [a]; rw [List.cons_lt_cons_iff]; simp [List.not_lt_nil]; lia) u
theorem chs_of {l : List (Nat × Int)} : (l.map (·.1)).map ch = ((l.map (·.1)).map fun c => [c]).map st := by
 simp only [List.map_map]; rfl
theorem keys_strs {w : World} : ∀ (kvs : List (Str × Value)) (l : List (Nat × Int)) (vs : List Value), ArcsAre kvs l → vs.length = kvs.length → (∀ (j : Nat) v, vs[j]? = some v → ∃ k x, kvs[j]? = some (k, x) ∧ (SK w).is k v = true) → StrsAre vs ((l.map (·.1)).map ch) := by
 intro kvs l vs ha
 induction ha generalizing vs with
 | nil => intro h1 _; rw [List.length_eq_zero_iff.mp h1]; exact .nil
 | @cons c i t kvs l _ ih =>
  intro h1 h2
  cases vs with
  | nil => cases h1
  | cons v vs =>
   (refine exE2 (h2 0 v rfl) fun k x zr1 => anE2 zr1 fun e1 e2 => ?_; clear zr1)
   simp only [List.getElem?_cons_zero, Option.some.injEq, Prod.mk.injEq] at e1
   obtain ⟨rfl, rfl⟩ := e1
   obtain ⟨t, rfl⟩ := Value.isStrOf_shape e2
   exact .cons _ t (ih vs (by simpa using h1) fun j v hj => h2 (j + 1) v (by simpa using hj))
section
variable {w : World} {A : Around} {E : Value → Shared → Prop} {h : Heap} {gs : Array GenState} {dr : Drawn} {t : Tok} {os : OsState}
end
end
section
open PySem PySem.W PyProof.Rows
theorem edge_self : ∀ {l : List Nat} {k : Nat}, l.Pairwise (· < ·) → k ∈ l → l.find? (fun x => decide (k ≤ x)) = some k
 | a :: l, k, hp, hm => by
  rw [List.find?_cons]
  rw [List.pairwise_cons] at hp
  rcases List.mem_cons.mp hm with rfl | hm
  ·simp
  ·have := hp.1 k hm
   rw [decide_eq_false (by lia)]
   exact edge_self hp.2 hm
inductive LV : Option Nat → Value → Prop
 | some {c : Nat} {t : Tok} : LV (some c) (.str (ch c) t)
 | none : LV none .none
noncomputable def OutD (w : World) (U : Addr) (kvs : List (Int × Value)) : Ent := (U, fun h => h.DictOf (IK w) U kvs)
noncomputable def OutOk (g : Heap) (D : Dfa) (kvs : List (Int × Value)) : Prop := ∀ q v, valueAt kvs q = some v → ∃ a, v = .ref a ∧ LabsAt g a (D.labs q)
theorem OutOk.keeps {g h : Heap} {D kvs} (x : OutOk g D kvs) (k : Keep g h) : OutOk h D kvs := fun q v e => by obtain ⟨a, b, c⟩ := x q v e; exact ⟨a, b, c.keeps k⟩
structure KF8 (K : Frag) : Prop extends KF7 K where
 mEdge : Meth K 245 "find_next_edge" "DFA.find_next_edge" 220 219 (clsSt 5 8) .none
noncomputable abbrev eEdge (L : Addr) : Env := envOf "DFA.find_next_edge" (fnOfSt (clsSt 5 8)).scope L 220 (.ref 219)
noncomputable abbrev edgeSt (i : Nat) : Stmt := (fnOfSt (clsSt 5 8)).body.getD i (.Pass default)
section
variable {w : World} {A : Around} {E : Value → Shared → Prop} {R : Result → Shared → Prop} {K : Frag} {mg mb : Str → Option Value} {gs : Array GenState} {dr : Drawn} {os : OsState}
 {V : Addr → Prop} {g₀ h₀ g h : Heap} {t : Tok} {L : Addr} {m : Str → Option Value} {ow : List Ent}
theorem edge_label (kf : KF8 K) (B : Base w K mg mb g) (C : Cur V g₀ h₀ L g h m ow) {lo : Option Nat} {lv : Value} (hv : LV lo lv) (hz : ∀ c, lo = some c → c ≤ 100000) (hl : m "label" = some lv) (hb : m "asbytes" = some (.bool false)) {Q : Flow → Shared → Prop} {rest : List Stmt}
  (H : ∀ h' t' tt, Cur V g₀ h₀ L g h' (fun y => if y = "label" then some (.str (ch (lo.elim 0 (· + 1))) tt) else m y) ow → wpAny (model P w) A (execs rest (eEdge L)) Q E ⟨h', gs, dr, t', os⟩) :
  wpAny (model P w) A (execs (edgeSt 0 :: rest) (eEdge L)) Q E ⟨h, gs, dr, t, os⟩ := by
 refine wpAny_execs_cons (wpAny_If (wpAny_isTrue_Compare1 (nameL C hl (constN ?_))))
 cases hv with
 | none =>
  refine wpAny_is_self rfl (wpAny_truthy_bool ?_)
  refine wpAny_execs_cons (assignL (wpAny_IfExp (isTrue_plain (nameL C hb (wpAny_truthy_bool (constS fun t₁ => storeL C fun h₂ t₂ C₂ _ => ?_))))))
  exact wpAny_execs_nil (H _ _ _ C₂)
 | @some c tc =>
  refine wpAny_is_other rfl (by simp) (wpAny_truthy_bool ?_)
  refine wpAny_execs_cons (assignL (wpAny_IfExp (isTrue_plain (nameL C hb (wpAny_truthy_bool ?_)))))
  refine callF1 C.X.gh B (kf.bn "chr" (by decide)) bt_chr (by decide) (wpAny_BinOp (callF1 C.X.gh B (kf.bn "ord" (by decide)) bt_ord (by decide) (nameL C hl ?_)))
  refine PySem.P.ord_of_char (s := ⟨h, gs, dr, t, os⟩) (c := c) (constI fun t₁ => PyProof.Rows.add_int ?_)
  have hc := hz c rfl
  refine PySem.P.chr_of_int ?_ ?_
  ·have h1 : decide ((c : Int) + 1 < 0) = false := decide_eq_false (by lia)
   have h2 : decide ((c : Int) + 1 > 0x10FFFF) = false := decide_eq_false (by lia)
   rw [h1, h2]; rfl
  ·refine storeL C fun h₂ t₂ C₂ _ => wpAny_execs_nil ?_
   have e : ((c : Int) + 1).toNat = c + 1 := by lia
   rw [e] at C₂
   exact H _ _ _ C₂
theorem valueAt_new {kvs : List (Int × Value)} {q p : Int} {v : Value} (hno : valueAt kvs q = none) : valueAt (stored kvs q v) p = if p = q then some v else valueAt kvs p := by
 rw [stored_new hno]
 unfold valueAt at hno ⊢
 rw [List.find?_append]
 by_cases e : p = q
 ·subst e
  rw [if_pos rfl]
  rw [Option.map_eq_none_iff] at hno
  rw [hno]; simp
 ·rw [if_neg e]
  have : ¬ q = p := fun z => e z.symm
  cases (kvs.find? fun kv => kv.1 = p) <;> simp [this]
end
end
section
open PySem PySem.W PyProof.Rows
noncomputable def ExcOk (e : Addr) (h : Heap) : Prop := ∃ ob vs, h.get? e = some ob ∧ ob.data = .fields vs ∧ vs[2]? = some .none
theorem ExcOk.at {e : Addr} {h h' : Heap} (x : ExcOk e h) (k : ∀ o, h.get? e = some o → h'.get? e = some o) : ExcOk e h' := by obtain ⟨ob, vs, a, b, c⟩ := x; exact ⟨ob, vs, k _ a, b, c⟩
theorem entry_unchain : entryFor table "proto.unchain" = some Builtin.«proto.unchain» := entryFor_of_tree (by kernel_rfl)
theorem plain_unchain : plainId "proto.unchain" = true := by decide +kernel
section
variable {w : World} {A : Around} {E : Value → Shared → Prop} {h : Heap} {gs : Array GenState} {dr : Drawn} {t : Tok} {os : OsState} {e : Addr}
theorem raiseNew_in {α : Type} {a : Addr} {oa : Obj} {va : Array Value} {Q : α → Shared → Prop} (hh : A.handled = some (.ref e)) (hne : a ≠ e) (x : ExcOk e h) (ha : h.get? a = some oa) (hd : oa.data = .fields va) (hsz : 2 < va.size)
  (H : ∀ h', Heap.SameBut a h h' → (∃ o, h'.get? a = some o ∧ o.cls = oa.cls) → E (.ref a) ⟨h', gs, dr, t, os⟩) : wpAny (model P w) A (raiseNew (.ref a) : Sem α) Q E ⟨h, gs, dr, t, os⟩ := by
 obtain ⟨ob, vs, he, hde, h2⟩ := x
 refine wpAny_bind (wpAny_handled ?_)
 rw [hh]
 have hne' : (Value.ref e != Value.ref a) = true := by rw [bne_iff_ne]; intro z; cases z; exact hne rfl
 dsimp only
 rw [if_pos hne']
 refine wpAny_bind (wpAny_holding (wpAny_runValue (codeAny_builtin entry_unchain ?_)))
 rw [Around.under_plainId plain_unchain _]
 refine wpAny_bind (wpAny_field (s := ⟨h, gs, dr, t, os⟩) he hde h2 ?_)
 rw [if_pos (by decide)]
 refine wpAny_bind (wpAny_pure (wpAny_pure ?_))
 show wpAny _ _ (updateField a 2 (.ref e) >>= fun _ => throw (.ref a)) _ _ _
 unfold updateField
 refine wpAny_bind (wpAny_bind (wpAny_load ha ?_))
 rw [hd]
 dsimp only
 rw [if_pos hsz]
 refine wpAny_update ha (wpAny_throw (H _ (Heap.SameBut.update ..) ⟨_, Heap.get?_update_self _ ha (Obj.isFreed_of_fields (Obj.data_mapFields hd _)), Obj.cls_mapFields _ _⟩))
variable {KT : Type} [DecidableEq KT] {knd : PySem.KeyKind P w KT}
theorem dict_end_in {it d : Addr} {i ep : Nat} {kvs : List (KT × Value)} {Q : Option Value → Shared → Prop} (hh : A.handled = some (.ref e)) (x : ExcOk e h) (hit : h.IsKeyIter it d i kvs.length ep)
  (hm : h.DictAt knd d kvs ep) (hx : kvs[i]? = none) (hie : it ≠ e)
  (hQ : ∀ h', Heap.ExtBut it h h' → Q none ⟨h', gs, dr, t, os⟩) : wpAny (model P w) A (pyNext (.ref it)) Q E ⟨h, gs, dr, t, os⟩ := by
 obtain ⟨o, ho, hc, hd⟩ := id hit
 obtain ⟨od, es, hod, hcd, hdd, hk, hp, hn⟩ := id hm
 have hT : Shared.TypeIs ⟨h, gs, dr, t, os⟩ (.ref it) "dict_keyiterator" := hit.typeIs
 unfold pyNext
 refine wpAny_bind (wpAny_attempt (wpAny_callSpecial?_slot (name := Str.ofString "__next__") hT PySem.F.slot_dict_keyiterator_next
  (wpAny_call_entry PySem.F.slot_dict_keyiterator_next hT PySem.F.entry_dict_keyiterator_next ?_ (PySem.F.args_dict_keyiterator_next_1 _))))
 refine wpAny_bind (wpAny_pure ?_)
 refine wpAny_bind ?_
 refine wpAny_bind ?_
 first | refine wpAny_bind (wpAny_typeNameOfWhole_keyiter hT (wpAny_pure ?_)) | refine wpAny_bind (wpAny_typeNameOf_keyiter hT (wpAny_pure ?_))
 refine wpAny_bind (wpAny_fieldsOf (s := ⟨h, gs, dr, t, os⟩) ho hd ?_)
 have hown : Builtin.Dict_items.ownsTuple "dict_keyiterator" = false := by decide
 rw [if_neg (by rw [hown]; exact Bool.false_ne_true)]
 show wpAny _ _ (if (Value.ref d == Value.none) = true then _ else _) _ _ _
 rw [if_neg (show ¬ ((Value.ref d == Value.none) = true) from Bool.false_ne_true)]
 refine wpAny_bind (wpAny_pure ?_)
 refine wpAny_bind (wpAny_dictEntries hod hdd ?_)
 have hsz : es.size = kvs.length := by rw [← hp.length]; simp
 rw [if_neg (by rw [hsz]; simp)]
 refine wpAny_bind (wpAny_pure ?_)
 refine wpAny_bind (wpAny_dictEpoch hod hdd ?_)
 rw [if_neg (by simp)]
 refine wpAny_pure ?_
 have hge : es.size ≤ i := by rw [hsz]; simpa using hx
 dsimp only
 rw [if_neg (Int.not_lt.mpr (Int.natCast_nonneg i)), Int.toNat_natCast, Array.getElem?_eq_none hge]
 refine wpAny_bind ?_
 first | refine wpAny_bind (wpAny_typeNameOfWhole_keyiter hT (wpAny_pure ?_)) | refine wpAny_bind (wpAny_typeNameOf_keyiter hT (wpAny_pure ?_))
 show wpAny _ _ (setField (.ref it) 0 .none >>= _) _ _ _
 refine wpAny_bind (wpAny_setField (s := ⟨h, gs, dr, t, os⟩) ho hd (by simp) ?_)
 show wpAny _ _ (newExc (.type "StopIteration") [] >>= _) _ _ _
 refine wpAny_bind ?_
 simp only [newExc, newTuple]
 refine wpAny_bind (wpAny_newObj_type ?_ (by size_fits))
 refine wpAny_bind (m := firstArgMember _ _) (wpAny_of_eq (a := Value.none) (by first | rfl | (simp only [firstArgMember]; rfl)) ?_)
 refine wpAny_newObj_type ?_ (by size_fits)
 have x' := x.at (h' := h.update it (Obj.mapFields (·.setIfInBounds 0 Value.none))) fun o q => (Heap.get?_update_other _ _ hie).trans q
 refine raiseNew_in (a := _) (hh : A.in1.handled = _) ?_ ((x'.at fun o q => Heap.get?_push_of_some _ q).at fun o q => Heap.get?_push_of_some _ q) (Heap.get?_push_size _ rfl) rfl ?_ fun h' hs hc => ?_
 ·intro z
  obtain ⟨_, _, q, _⟩ := x'
  have := Heap.lt_size q
  rw [← z] at this
  simp at this
  exact absurd this (Nat.not_lt.mpr (Nat.le_succ _))
 ·simp only [List.size_toArray, Array.size_append, List.length_cons, List.length_nil]
  exact Nat.lt_of_lt_of_le (by decide) (Nat.le_add_right 6 _)
 refine wpAny_bind (wpAny_isInstance (T := "StopIteration") (b := true) ⟨_, hc.choose_spec.1, hc.choose_spec.2⟩ isSubtype_stop ?_)
 refine wpAny_pure (hQ _ fun b o hb q => ?_)
 have hlt := Heap.lt_size q
 refine (hs.2 b fun z => ?_).trans (Heap.get?_push_of_some _ (Heap.get?_push_of_some _ ((Heap.get?_update_other _ _ (Ne.symm hb)).trans q)))
 rw [z] at hlt
 simp at hlt
 exact absurd hlt (Nat.not_lt.mpr (Nat.le_succ _))
end
end
section
open PySem PySem.W PyProof.Rows
section
variable {w : World} {A : Around} {E : Value → Shared → Prop} {h : Heap} {gs : Array GenState} {dr : Drawn} {t : Tok} {os : OsState} {e : Addr} {KT : Type} [DecidableEq KT] {knd : PySem.KeyKind P w KT} {d : Addr} {kvs : List (KT × Value)} {ep : Nat}
theorem Walks.keysIn (hh : A.handled = some (.ref e)) (I : Addr) (hne : d ≠ I) (hie : I ≠ e) (kvs : List (KT × Value)) (ep : Nat) :
  Walks P w A I [I, d, e] [I] kvs.length (fun i v => ∃ k x, kvs[i]? = some (k, x) ∧ knd.is k v = true) (fun i h => (h.IsKeyIter I d i kvs.length ep ∧ h.DictAt knd d kvs ep) ∧ ExcOk e h) where
 sub := fun b hb => by simp at hb; simp [hb]
 frame := fun _ _ _ st hk => ⟨⟨st.1.1.at fun o e => hk I (by simp) o e, st.1.2.at' fun o e => hk d (by simp) o e⟩, st.2.at fun o q => hk e (by simp) o q⟩
 item := fun i s Q E hi st hQ => by
  obtain ⟨⟨k, x⟩, hx⟩ : ∃ p, kvs[i]? = some p := ⟨kvs[i], by simp [hi]⟩
  refine wpAny_pyNext_dict_item st.1.1 st.1.2 hx fun key h' hkey hit' hs' => ?_
  exact hQ key h' s.toks (exI2 k x ⟨hx, hkey⟩) ⟨⟨hit', st.1.2.extBut hs'.extBut hne⟩, st.2.at fun o q => hs'.extBut _ o (Ne.symm hie) q⟩ fun b o hb e => hs'.extBut b o (fun h => hb (by simp [h])) e
 done := fun s Q E st hQ => dict_end_in (h := s.heap) (gs := s.gens) (dr := s.drawn) (t := s.toks) (os := s.os) hh st.2 st.1.1 st.1.2 (by simp) hie fun h' he' => hQ h' s.toks fun b o hb e => he' b o (fun h => hb (by simp [h])) e
 self := fun _ _ _ _ st hQ => wpAny_pyIter_keyiter st.1.1 hQ
theorem collect_dict_in {R : List Value → Shared → Prop} (hh : A.handled = some (.ref e)) (x : ExcOk e h) (lo : (d == sysModules) = false) (hd : h.DictAt knd d kvs ep) (hn : kvs.length ≤ sizeLine) (hde : d ≠ e)
  (H : ∀ h' t' vs, Keep h h' → vs.length = kvs.length → (∀ (j : Nat) v, vs[j]? = some v → ∃ k x, kvs[j]? = some (k, x) ∧ knd.is k v = true) → R vs ⟨h', gs, dr, t', os⟩) : wpAny (model P w) A (collect (.ref d)) R E ⟨h, gs, dr, t, os⟩ := by
 unfold collect
 refine wpAny_bind (wpAny_runValue (codeAny_builtin entry_proto_collect' ?_))
 rw [Around.under_plainId PySem.F.plain_proto_collect _]
 show wpAny _ A.in1 (newList [] >>= fun l => again (.builtin "list.__iadd__" ⟨[l, .ref d], []⟩)) _ _ _
 refine wpAny_bind (wpAny_newObj_type ?_)
 refine wpAny_pure ⟨plainId_quiet PySem.F.plain_list_iadd _, codeAny_builtin entry_list_iadd' ?_⟩
 rw [Around.under_plainId PySem.F.plain_list_iadd _]
 have kp := Keep.push h { cls := .type "list", data := .seq ([] : List Value).toArray }
 have hS₁ : (h.push { cls := .type "list", data := .seq ([] : List Value).toArray }).get? h.objs.size = some { cls := .type "list", data := .seq #[] } := Heap.get?_push_size _ rfl
 show wpAny _ A.in1 (Builtin.List.listExtendWith (.ref h.objs.size) (.ref d) (.ref h.objs.size)) _ _ _
 generalize hh₁ : h.push { cls := .type "list", data := .seq ([] : List Value).toArray } = h₁ at kp hS₁
 generalize hS : h.objs.size = S at hS₁
 have hlt : d < S := by rw [← hS]; exact hd.lt_size
 have x₁ : ExcOk e h₁ := x.at fun o q => kp _ _ q
 have hd₁ : h₁.DictAt knd d kvs ep := hd.at' fun o q => kp _ _ q
 have hSe : S ≠ e := fun z => by
  obtain ⟨o, _, q, _⟩ := x
  have := Heap.lt_size q
  rw [hS, z] at this
  exact Nat.lt_irrefl _ this
 have hSI : S ≠ h₁.objs.size := Nat.ne_of_lt (Heap.lt_size hS₁)
 have hSd : S ≠ d := Nat.ne_of_gt hlt
 have hIe : h₁.objs.size ≠ e := fun z => by
  obtain ⟨o, _, q, _⟩ := x₁
  have := Heap.lt_size q
  rw [z] at this
  exact Nat.lt_irrefl _ this
 have W := Walks.keysIn (A := A.in1) (knd := knd) (e := e) (d := d) hh h₁.objs.size (Nat.ne_of_lt hd₁.lt_size) hIe kvs ep
 have hSf : S ∉ [h₁.objs.size, d, e] := by simp only [List.mem_cons, List.not_mem_nil, or_false, not_or]; exact (anI3 hSI hSd hSe)
 have key : ∀ (h₂ : Heap) (c₁ tk : Nat), (h₂.IsKeyIter h₁.objs.size d 0 kvs.length ep ∧ h₂.DictAt knd d kvs ep) ∧ ExcOk e h₂ → (∀ b o, b ≠ S → h₁.get? b = some o → h₂.get? b = some o) →
   h₂.get? S = some { cls := .type "list", data := .seq #[] c₁ } → ∀ (R' : Result → Shared → Prop), (∀ h' tk acc' c', Keep h h' → h'.get? S = some { cls := .type "list", dict := none, data := .seq acc' c', slots := #[] } → ItemsOf (fun i v => ∃ k x, kvs[i]? = some (k, x) ∧ knd.is k v = true) acc' kvs.length → R' (.ok (.ret (.ref S))) ⟨h', gs, dr, tk, os⟩) →
   codeAny (model P w) A (.builtin "list.extend.loop" ⟨[.ref S, .ref h₁.objs.size, .ref S], []⟩) R' ⟨h₂, gs, dr, tk, os⟩ := by
  intro h₂ c₁ tk hst hk hS₂ R' HR
  refine codeAny_extend_loopS W.toS hn S hSf (.ref S) kvs.length 0 _ #[] c₁ rfl (Nat.zero_le _) hst hS₂ (ItemsOf.nil _) fun s' acc' c' hm hS' hacc => ?_
  rw [Moved.eq_with hm]
  refine HR s'.heap s'.toks acc' c' (fun b o q => ?_) hS' hacc
  have hbS : b ≠ S := fun z => by have := Heap.lt_size q; rw [hS, z] at this; exact Nat.lt_irrefl _ this
  refine hm.heap b o (fun hmem => ?_) (hk b o hbS (kp b o q))
  rcases List.mem_cons.mp hmem with e' | hmem
  ·exact hbS e'
  ·have := Heap.lt_size (kp b o q)
   rw [List.mem_singleton.mp hmem] at this
   exact Nat.lt_irrefl _ this
 have key2 : wpAny (model P w) A.in1 (Builtin.List.listExtendWith (.ref S) (.ref d) (.ref S))
   (fun fin s' => match fin with
    | .done f => (fun (q : Result) (s' : Shared) => ∃ (h' : Heap) (tk : Nat) (acc' : Array Value) (c' : Nat), q = .ok (.ret (.ref S)) ∧ s' = ⟨h', gs, dr, tk, os⟩ ∧ Keep h h' ∧ h'.get? S = some { cls := .type "list", dict := none, data := .seq acc' c', slots := #[] } ∧ ItemsOf (fun i v => ∃ k x, kvs[i]? = some (k, x) ∧ knd.is k v = true) acc' kvs.length) (.ok f) s'
    | .again c' => c'.quiet = true ∧ codeAny (model P w) A c' (fun (q : Result) (s' : Shared) => ∃ (h' : Heap) (tk : Nat) (acc' : Array Value) (c' : Nat), q = .ok (.ret (.ref S)) ∧ s' = ⟨h', gs, dr, tk, os⟩ ∧ Keep h h' ∧ h'.get? S = some { cls := .type "list", dict := none, data := .seq acc' c', slots := #[] } ∧ ItemsOf (fun i v => ∃ k x, kvs[i]? = some (k, x) ∧ knd.is k v = true) acc' kvs.length) s')
   (fun e s' => False) ⟨h₁, gs, dr, t, os⟩ := by
  have fin : ∀ h' tk acc' c', Keep h h' → h'.get? S = some { cls := .type "list", dict := none, data := .seq acc' c', slots := #[] } → ItemsOf (fun i v => ∃ k x, kvs[i]? = some (k, x) ∧ knd.is k v = true) acc' kvs.length →
   (fun (q : Result) (s' : Shared) => ∃ (h' : Heap) (tk : Nat) (acc' : Array Value) (c' : Nat), q = .ok (.ret (.ref S)) ∧ s' = ⟨h', gs, dr, tk, os⟩ ∧ Keep h h' ∧ h'.get? S = some { cls := .type "list", dict := none, data := .seq acc' c', slots := #[] } ∧ ItemsOf (fun i v => ∃ k x, kvs[i]? = some (k, x) ∧ knd.is k v = true) acc' kvs.length) (.ok (.ret (.ref S))) ⟨h', gs, dr, tk, os⟩ :=
   fun h' tk acc' c' a b c => (exI4 h' tk acc' c' (anI5 rfl rfl a b c))
  have st : ((h₁.push { cls := .type "dict_keyiterator", data := .fields #[.ref d, .int 0 0, .int kvs.length 0, .int ep 0] }).IsKeyIter h₁.objs.size d 0 kvs.length ep ∧ (h₁.push { cls := .type "dict_keyiterator", data := .fields #[.ref d, .int 0 0, .int kvs.length 0, .int ep 0] }).DictAt knd d kvs ep) ∧ ExcOk e (h₁.push { cls := .type "dict_keyiterator", data := .fields #[.ref d, .int 0 0, .int kvs.length 0, .int ep 0] }) :=
   ⟨⟨⟨_, Heap.get?_push_size _ rfl, rfl, rfl⟩, hd₁.push _⟩, x₁.at fun o q => Heap.get?_push_of_some _ q⟩
  have hT : ∀ h', h'.DictAt knd d kvs ep → Shared.TypeIs ⟨h', gs, dr, t, os⟩ (.ref d) "dict" := fun h' hm => Heap.DictOf.typeIs (s := ⟨h', gs, dr, t, os⟩) hm.dictOf
  unfold Builtin.List.listExtendWith
  refine wpAny_bind (wpAny_typeOf (T := "dict") (hT _ hd₁) ?_)
  have h1 : Builtin.List.listSameRef (.ref S) (.ref d) = false := by simp [Builtin.List.listSameRef, hSd]
  simp only [h1, show (Value.type "dict" == Value.type "list") = false from by decide, show (Value.type "dict" == Value.type "tuple") = false from by decide, Bool.or_false, Bool.false_eq_true, if_false]
  refine wpAny_bind (wpAny_pyIter_dict (s := ⟨h₁, gs, dr, t, os⟩) lo hd₁ ?_)
  have hS₂ := Heap.get?_push_of_some { cls := .type "dict_keyiterator", data := .fields #[.ref d, .int 0 0, .int kvs.length 0, .int ep 0] } hS₁
  refine wpAny_bind (wpAny_holding (kdl_hint_dict (hT _ (hd₁.push _)) ?_))
  refine wpAny_ite_split (fun _ => ?_) (fun _ => wpAny_pure ⟨plainId_quiet PySem.F.plain_extend_loop _, key _ 0 _ st (fun b o _ q => Heap.get?_push_of_some _ q) hS₂ _ fin⟩)
  refine wpAny_bind (wpAny_rule ?_)
  refine wpAny_bind ?_
  show wpAny _ _ (updateSeq S (·.push .none) >>= fun _ => updateSeq S (·.pop)) _ _ _
  refine wpAny_bind (wpAny_updateSeq hS₂ rfl ?_)
  have hS₃ := Heap.get?_update_self (Obj.mapSeq (·.push Value.none)) hS₂ rfl
  refine wpAny_updateSeq (hz := by seq_fits) hS₃ rfl ?_
  have hS₄ := Heap.get?_update_self (Obj.mapSeq (·.pop)) hS₃ rfl
  have oth : ∀ b o, b ≠ S → (h₁.push { cls := .type "dict_keyiterator", data := .fields #[.ref d, .int 0 0, .int kvs.length 0, .int ep 0] }).get? b = some o → (((h₁.push { cls := .type "dict_keyiterator", data := .fields #[.ref d, .int 0 0, .int kvs.length 0, .int ep 0] }).update S (Obj.mapSeq (·.push Value.none))).update S (Obj.mapSeq (·.pop))).get? b = some o :=
   fun b o hb q => (Heap.get?_update_other _ _ (Ne.symm hb)).trans ((Heap.get?_update_other _ _ (Ne.symm hb)).trans q)
  refine wpAny_pure ⟨plainId_quiet PySem.F.plain_extend_loop _, key _ _ _ ?_ (fun b o hb q => oth b o hb (Heap.get?_push_of_some _ q)) hS₄ _ fin⟩
  exact ⟨⟨st.1.1.at fun o q => oth _ o (fun z => hSI z.symm) q, st.1.2.at' fun o q => oth _ o (fun z => hSd z.symm) q⟩, st.2.at fun o q => oth _ o (fun z => hSe z.symm) q⟩
 refine wpAny_mono key2 (fun fin s' y => ?_) fun e s' y => y.elim
 cases fin with
 | done f =>
  obtain ⟨h', tk, acc', c', e', rfl, hk, hS', hl⟩ := y
  cases e'
  show wpAny _ A (load S >>= _) _ _ _
  exact wpAny_bind (wpAny_load hS' (wpAny_pure (H h' tk _ hk (by rw [Array.length_toList]; exact hl.1) fun j v q => hl.2 j v (by rw [← Array.getElem?_toList]; exact q))))
 | again c₁ =>
  refine ⟨y.1, codeAny_mono y.2 fun q s₂ y => ?_⟩
  (refine exE4 y fun h' tk acc' c' zr3 => anE5 zr3 fun ze1 ze2 hk hS' hl => ?_; clear y zr3; subst ze1; subst ze2)
  show wpAny _ A (load S >>= _) _ _ _
  exact wpAny_bind (wpAny_load hS' (wpAny_pure (H h' tk _ hk (by rw [Array.length_toList]; exact hl.1) fun j v q => hl.2 j v (by rw [← Array.getElem?_toList]; exact q))))
end
end
section
open PySem PySem.W PyProof.Rows
section
variable {w : World} {A : Around} {E : Value → Shared → Prop} {h : Heap} {gs : Array GenState} {dr : Drawn} {t : Tok} {os : OsState} {e : Addr}
theorem entry_in {base : Heap} {env : Env} {outer : List Env} {L : Addr} {oe : Obj} {vs : Array Value} {head a0 : Value} {hadNext : Bool} {Q : Unit → Shared → Prop}
  (hfr : A.frames = some (env :: outer)) (hl : h.FunFrames base (env :: outer)) (hf : env.frame = some L)
  (he : h.get? e = some oe) (hkb : base.StaysIn h) (hen : base.get? e = none) (hd : oe.data = .fields vs) (hsz : 1 < vs.size) (h0 : vs[0]? = some a0) (h2 : vs[2]? = some .none)
  (H : ∀ h', Heap.NotedW base (env :: outer) e oe.cls a0 (rawInt L) h h' → ExcOk e h' → Q () ⟨h', gs, dr, t, os⟩) :
  wpAny (model P w) A (do let a ← frameOf env; let pl ← entryPlaceOf L hadNext; let b ← EntryCells.newEntry head a .none (rawInt L) .none pl; setField (.ref e) 1 b) Q E ⟨h, gs, dr, t, os⟩ := by
 have hene : e ∉ (env :: outer).filterMap (·.frame) := fun hm => by
  obtain ⟨_, o, ho, hnf⟩ := hl.mem hm
  rw [he] at ho; injection ho with ho; subst ho; exact hnf vs hd
 refine wpAny_bind (wpAny_frameOf_fun (s := ⟨h, gs, dr, t, os⟩) hfr hl hf fun h₁ hs₁ => ?_)
 refine wpAny_bind (wpAny_entryPlaceOf fun pl hpl => ?_)
 unfold EntryCells.newEntry newFields
 refine wpAny_bind (wpAny_newObj_type ?_ (hpl.sizeOk5 _ _ _ _ _))
 generalize hob : ({ cls := .type "traceback", dict := none, data := .fields ([head, .ref L, .none, rawInt L, .none] ++ (if pl.isEmpty then List.replicate 6 Value.none else pl)).toArray } : Obj) = ob
 have hobd : ob.data = .fields ([head, .ref L, .none, rawInt L, .none] ++ (if pl.isEmpty then List.replicate 6 Value.none else pl)).toArray := by rw [← hob]
 have he₁ : h₁.get? e = some oe := (hs₁.2.1 e hene).trans he
 have kb₁ : base.StaysIn h₁ := fun b o hbo => (hs₁.2.1 b fun hm => by rw [(hl.mem hm).1] at hbo; cases hbo).trans (hkb b o hbo)
 have he₂ := Heap.get?_push_of_some (h := h₁) ob he₁
 have hTe : h₁.objs.size ≠ e := Nat.ne_of_gt (Heap.lt_size he₁)
 have hd₃ := Obj.data_mapFields hd (·.setIfInBounds 1 (Value.ref h₁.objs.size))
 have he₃ := Heap.get?_update_self (Obj.mapFields (·.setIfInBounds 1 (Value.ref h₁.objs.size))) he₂ (Obj.isFreed_of_fields hd₃)
 have hT₃ := (Heap.get?_update_other (h₁.push ob) (Obj.mapFields (·.setIfInBounds 1 (Value.ref h₁.objs.size))) (Ne.symm hTe)).trans (Heap.get?_push_size h₁ (Obj.isFreed_of_fields hobd))
 have keep : ∀ b o, b ≠ e → h₁.get? b = some o → ((h₁.push ob).update e (Obj.mapFields (·.setIfInBounds 1 (Value.ref h₁.objs.size)))).get? b = some o :=
  fun b o hbe hb => (Heap.get?_update_other _ _ (Ne.symm hbe)).trans (Heap.get?_push_of_some _ hb)
 have noRecord : ∀ b o, h.get? b = some o → (∀ vs, o.data ≠ .fields vs) → b ≠ e := fun b o hb hnf q => by
  rw [q, he] at hb; injection hb with hb; subst hb; exact hnf vs hd
 refine wpAny_setField he₂ hd hsz (H _ ?_ ⟨_, _, he₃, hd₃, by rw [Array.getElem?_setIfInBounds_ne (by decide)]; exact h2⟩)
 refine ⟨fun b o hbo => keep b o (fun q => by rw [q, hen] at hbo; cases hbo) (kb₁ b o hbo), hl.of_keeps fun b o hb hnf => ?_, ?_, fun b o hb hnf => ?_⟩
 ·obtain ⟨sl, hs⟩ := hs₁.2.2 b o hb
  exact ⟨_, keep b _ (noRecord b o hb hnf) hs, rfl⟩
 ·exact ⟨_, _, h₁.objs.size, _, _, he₃, ⟨Obj.cls_mapFields _ _, by rw [Array.getElem?_setIfInBounds_ne (by decide)]; exact h0⟩, hd₃, by simp [hsz], kb₁.fresh, hTe, hT₃, hobd, by first | (simp; done) | (rcases hpl with rfl | ⟨_, _, _, _, _, _, _, rfl⟩ <;> simp)⟩
 ·obtain ⟨sl, hs⟩ := hs₁.2.2 b o hb
  exact ⟨sl, keep b _ (noRecord b o hb hnf) hs⟩
theorem land_in {base : Heap} {l : List Env} {cls a0 fl : Value} {Q : Unit → Shared → Prop} (hkb : base.StaysIn h) (hen : base.get? e = none) (hl : h.FunFrames base l) (ht : h.TracedAtW base e cls a0 fl) (x : ExcOk e h)
  (H : ∀ h', Heap.FlyingW base l e cls a0 h' → h.UpToSlots h' → ExcOk e h' → Q () ⟨h', gs, dr, t, os⟩) : wpAny (model P w) A (setFlight (.ref e) none) Q E ⟨h, gs, dr, t, os⟩ := by
 obtain ⟨oe, vs, T, oT, ts, he, hcls, hd, h1, hnT, hTe, hT, hdT, h3⟩ := ht
 have hsz3 : 3 < ts.size := (Array.getElem?_eq_some_iff.mp h3).1
 have other : ∀ b, b ≠ T → (h.update T (Obj.mapFields (·.setIfInBounds 3 ((none : Option Addr).elim Value.none fun f => rawInt f)))).get? b = h.get? b :=
  fun b hb => Heap.get?_update_other _ _ (Ne.symm hb)
 have noRecord : ∀ b o, h.get? b = some o → (∀ vs, o.data ≠ .fields vs) → b ≠ T := fun b o hb hnf q => by
  rw [q, hT] at hb; injection hb with hb; subst hb; exact hnf ts hdT
 unfold setFlight
 refine wpAny_bind (wpAny_field (s := ⟨h, gs, dr, t, os⟩) he hd h1 ?_)
 rw [if_pos (show (Value.ref T != Value.none) = true from by simp)]
 refine wpAny_setField (s := ⟨h, gs, dr, t, os⟩) hT hdT hsz3 (H _ ⟨fun b o hbo => (other b fun q => by rw [q, hnT] at hbo; cases hbo).trans (hkb b o hbo), hen,
  hl.of_keeps fun b o hb hnf => ⟨o, (other b (noRecord b o hb hnf)).trans hb, rfl⟩, ?_⟩ (fun b o hb hnf => ⟨o.slots, (other b (noRecord b o hb hnf)).trans hb⟩) (x.at fun o q => (other e (Ne.symm hTe)).trans q))
 exact ⟨oe, vs, T, _, _, (other e (Ne.symm hTe)).trans he, hcls, hd, h1, hnT, hTe, Heap.get?_update_self _ hT (Obj.isFreed_of_fields (Obj.data_mapFields hdT _)), Obj.data_mapFields hdT _, by simp [hsz3]⟩
theorem caught_in {env : Env} {outer : List Env} {L : Addr} {X T : String} {h₁ : Heap} {te : Expr} {b₀ : Stmt} {suite : List Stmt} {pos : Pos} {rest : List ExceptHandler} {Q : Flow → Shared → Prop}
  (hfr : A.frames = some (env :: outer)) (hf : env.frame = some L) (hok : FrsOk h (env :: outer)) (hx : Heap.NewExc h h₁ e X)
  (hexc : isSubtype (.type T) (.type "BaseException") = pure true) (hnt : isSubtype (.type ((Manifest.find? T).elim "type" fun x => x.metatype)) (.type "tuple") = pure false)
  (hsub : isSubtype (.type X) (.type T) = pure true)
  (hte : ∀ h' t' Q', Noted (env :: outer) h h' → Q' (.type T) ⟨h', gs, dr, t', os⟩ → wpAny (model P w) (A.mark (some (.ref e))) (eval te env) Q' (fun _ _ => False) ⟨h', gs, dr, t', os⟩)
  (H : ∀ h' t', Noted (env :: outer) h h' → ExcOk e h' → h.get? e = none → wpAny (model P w) (A.mark (some (.ref e))) (execs (b₀ :: suite) env) Q (fun _ _ => False) ⟨h', gs, dr, t', os⟩) :
  wpAny (model P w) A (noteFrame (.ref e) env) (fun _ s₂ => wpAny (model P w) A (setFlight (.ref e) none) (fun _ s₃ => wpAny (model P w) A (handleBy (.ref e) env (.ExceptHandler (some te) none (b₀ :: suite) pos :: rest)) Q E s₃) E s₂) E ⟨h₁, gs, dr, t, os⟩ := by
 (refine exE2 hx.there fun ob tp zr1 => anE3 zr1 fun he hc hd => ?_; clear zr1)
 obtain ⟨base, base_get, base_none⟩ := base_of h (env :: outer)
 have hen : base.get? e = none := by
  cases q : base.get? e with
  | none => rfl
  | some o => have := ((base_get e o).mp q).1; rw [hx.new] at this; cases this
 have noted : ∀ h', base.StaysIn h' → h₁.UpToSlots h' → Noted (env :: outer) h h' := fun h' k u => ⟨fun b o nb q => k b o ((base_get b o).mpr ⟨q, nb⟩), fun a m hn => u.ns (Ns_at hn fun o q => hx.keeps _ _ q)⟩
 have st₁ : base.StaysIn h₁ := fun b o q => hx.keeps b o ((base_get b o).mp q).1
 unfold noteFrame
 rw [hf]
 refine wpAny_bind (wpAny_field (s := ⟨h₁, gs, dr, t, os⟩) he hd (x := .none) rfl ?_)
 rw [if_neg (by decide)]
 refine entry_in (a0 := tp) (base := base) hfr (funFrames_of (frsOk_keeps hx.keeps hok) base_none) hf he st₁ hen hd (by show 1 < 6; decide) rfl rfl fun h₂ zk x₂ => ?_
 obtain ⟨k1, k2, k3, k4⟩ := zk
 have u₂ : h₁.UpToSlots h₂ := k4
 rw [hc] at k3
 refine land_in (base := base) (l := env :: outer) (cls := .type X) (a0 := tp) k1 hen k2 k3 x₂ fun h₃ hfl₃ u₃ x₃ => ?_
 obtain ⟨ob₃, hob₃, hobc₃⟩ := hfl₃.there
 have n₃ := noted h₃ hfl₃.1 (u₂.trans u₃)
 refine wpAny_handleBy_builtin (X := X) (T := T) (b := true) hexc hnt hsub ?_
 refine wpAny_noRaise (hte h₃ t _ n₃ (anI3 rfl ⟨ob₃, hob₃, hobc₃⟩ ?_))
 refine land_in (base := base) (l := env :: outer) (cls := .type X) (a0 := tp) (fl := .none) hfl₃.1 hen hfl₃.2.2.1 hfl₃.2.2.2 x₃ fun h₄ hfl₄ u₄ x₄ => ?_
 exact wpAny_noRaise (H h₄ t (noted h₄ hfl₄.1 ((u₂.trans u₃).trans u₄)) x₄ hx.new)
end
end
section
open PySem PySem.W PyProof.Rows
section
variable {w : World} {A : Around} {E : Value → Shared → Prop} {h : Heap} {gs : Array GenState} {dr : Drawn} {t : Tok} {os : OsState} {env : Env}
theorem subscriptA {value : Expr} {x : Str} {p pos : Pos} {Q : Value → Shared → Prop} {s : Shared}
  (H : wpAny (model P w) A (eval value env) (fun o s₁ => wpAny (model P w) A (eval (.Name x p) env) (fun i s₂ => SubscriptOn (model P w) A o i Q E s₂) E s₁) E s) :
  wpAny (model P w) A (eval (.Subscript value (.Name x p) pos) env) Q E s := by
 rw [eval_Subscript]
 refine wpAny_bind (wpAny_mono H (fun o s₁ h₁ => wpAny_bind (wpAny_holding (wpAny_mono h₁ (fun i s₂ h₂ => wpAny_bind (wpAny_standAt ?_)) fun _ _ x => x))) fun _ _ x => x)
 obtain ⟨T, id, hl, hT, hg⟩ := h₂
 refine wpAny_bind ?_
 rw [getitemInPython_of_ne hT.not_modules]
 refine wpAny_bind (wpAny_specialOf hT hl ?_)
 have fin : wpAny (model P w) A (operate [o, i] (getItem o i)) (fun r s₃ => wpAny (model P w) A (letTemporaryGo value o r >>= fun _ => pure r) Q E s₃) E s₂ :=
  wpAny_operating (wpAny_mono hg (fun r s₃ h₃ => wpAny_bind (wpAny_letTemporaryGo (wpAny_pure h₃))) fun _ _ x => x)
 first
  | exact wpAny_pure (wpAny_bind fin)
  | exact wpAny_bind (wpAny_pure (wpAny_bind fin))
  | exact wpAny_bind fin
theorem assignSub {o i : Expr} {pos : Pos} {v : Value} {Q : Unit → Shared → Prop} {s : Shared}
  (H : wpAny (model P w) A (eval o env) (fun ov s₁ => wpAny (model P w) A (eval i env) (fun iv s₂ => wpAny (model P w) A (setItem ov iv v) Q E s₂) E s₁) E s) :
  wpAny (model P w) A (assign (.Subscript o i pos) env v) Q E s := by
 rw [assign_Subscript]
 exact wpAny_bind (wpAny_holding (wpAny_mono H (fun ov s₁ h₁ => wpAny_bind (wpAny_holding (wpAny_mono h₁ (fun iv s₂ h₂ => wpAny_bind (wpAny_standAt (wpAny_bind (wpAny_holding (wpAny_mono h₂ (fun _ s₃ h₃ => wpAny_release h₃) fun _ _ x => x))))) fun _ _ x => x))) fun _ _ x => x))
theorem sorted_labels_in {e d : Addr} {kvs : List (Str × Value)} {l : List (Nat × Int)} {Q : Value → Shared → Prop} (hh : A.handled = some (.ref e)) (x : ExcOk e h) (hde : d ≠ e) (lo : (d == sysModules) = false) (hd : h.DictOf (SK w) d kvs) (ha : ArcsAre kvs l) (u : upL l) (h64 : l.length < 64)
  (H : ∀ h' t' B, Keep h h' → h.get? B = none → LabsAt h' B (l.map (·.1)) → Q (.ref B) ⟨h', gs, dr, t', os⟩) :
  wpAny (model P w) A (call (.builtin "sorted") [.ref d]) Q E ⟨h, gs, dr, t, os⟩ := by
 obtain ⟨ep, hat⟩ := hd.dictAt
 have hlen : kvs.length = l.length := ha.length
 refine sorted_texts (Dp := fun d' => d' = dr) (ss := (l.map (·.1)).map ch) (fun R HR => ?_) (by simpa using h64) fun h' d' t' B vs ss' e hd' k hB hB' hS hp hs => ?_
 ·refine collect_dict_in (A := A.in1) (knd := SK w) (kvs := kvs) (ep := ep) hh x lo hat (by rw [hlen, sizeLine_eq]; lia) hde fun h' t' vs k hl hv => ?_
  exact HR h' dr t' vs _ rfl k (keys_strs kvs l vs ha hl hv) (List.Perm.refl _)
 ·subst d'
  have e1 : ss' = ((l.map (·.1)).map fun c => [c]).map st := sorted_is hs (by
   have := hp.map (fun x : Str => x.cps.toList)
   rw [chs_of, map_st] at this
   exact this) (up_sorted u)
  exact H h' t' B k hB ⟨vs, e, hB', by rw [chs_of, ← e1]; exact hS⟩
end
section
variable {w : World} {A : Around} {E : Value → Shared → Prop} {R : Result → Shared → Prop} {K : Frag} {mg mb : Str → Option Value} {gs : Array GenState} {dr : Drawn} {os : OsState}
 {V : Addr → Prop} {g₀ h₀ g h : Heap} {t : Tok} {L : Addr} {m : Str → Option Value} {ow : List Ent}
variable {d dx T Df F U : Addr} {D : Dfa} {fo : List Ent} {outer : List Env} {kvs : List (Int × Value)} {q : Int} {tq : Tok} {e : Addr}
theorem edge_find (kf : KF8 K) (B : Base w K mg mb g) (hh : A.handled = none) (hfr : A.frames = some outer) (FO : FrIn outer fo) (I : DfaAt w g d dx T Df F U D) (up : D.Up) (hsU : (U == sysModules) = false)
  (C : Cur V g₀ h₀ L g h m (fo ++ [OutD w U kvs])) (OK : OutOk g D kvs) (hz : kvs.length ≤ 1000) (hself : m "self" = some (.ref d)) (hs : m "s" = some (.int q tq)) (htr : m "trans" = some (.ref e)) (hA : ArcsAt w g e (D.arcs q)) (he : (e == sysModules) = false) {Q : Flow → Shared → Prop} {rest : List Stmt}
  (H : ∀ g' h' t' m' kvs' a, Keep g g' → Cur V g₀ h₀ L g' h' m' (fo ++ [OutD w U kvs']) → OutOk g' D kvs' → kvs'.length ≤ kvs.length + 1 → m' "labels" = some (.ref a) → LabsAt g' a (D.labs q) → (∀ y : Str, y ≠ "labels" → m' y = m y) → wpAny (model P w) (A.deeper (eEdge L)) (execs rest (eEdge L)) Q E ⟨h', gs, dr, t', os⟩) :
  wpAny (model P w) (A.deeper (eEdge L)) (execs (edgeSt 3 :: rest) (eEdge L)) Q E ⟨h, gs, dr, t, os⟩ := by
 refine exE2 I.inst fun td n I₀ => ?_
 have p := kf.pg "outlabels" (by decide)
 have hd : h.DictOf (IK w) U kvs := C.get (OutD w U kvs) (by simp)
 refine wpAny_execs_cons (wpAny_noRaise (wpAny_Try_except (wpAny_execs_cons (assignL (subscriptA (attrN C hself (attr_own C.X.gh B.X I₀ p.1 kf.hh p.2 (by rfl) rfl fun t₁ => nameL C hs ⟨"dict", "dict.__getitem__", slot_dict_getitem.lookup, hd.typeIs, ?_⟩)))))))
 cases hat : valueAt kvs q with
 | some v =>
  obtain ⟨a, rfl, hl⟩ := OK q v hat
  refine wpAny_getItem_of (s := ⟨h, gs, dr, t₁, os⟩) (knd := IK w) (k := q) (intKind_is P w q tq) hd.mapOf hat ?_
  exact storeL C fun h₂ t₂ C₂ _ => wpAny_execs_nil (wpAny_execs_nil (H g h₂ t₂ _ kvs a (Keep.refl _) C₂ OK (by lia) sam hl fun y hy => if_neg hy))
 | none =>
  refine wpAny_getItem_missing_of (s := ⟨h, gs, dr, t₁, os⟩) (knd := IK w) (k := q) (intKind_is P w q tq) hsU hh hd.mapOf hat fun h₁ ex hx => ?_
  have FO' : FrIn outer (fo ++ [OutD w U kvs]) := FO.mono fun e me => memL me
  refine caught_in (L := L) (outer := outer) (Around.frames_deeper hfr) rfl (C.frsOk (by show (fnOfSt (clsSt 5 8)).scope.kind ≠ .module; decide) rfl FO') hx exc_KeyError nt_KeyError sub_KeyError (fun h' t' Q' n hq => ?_) fun h₂ t₂ n x₂ hen => ?_
  ·exact nameB (C.noted rfl FO' n).X.gh B (kf.bn "KeyError" (by decide)) bt_KeyError (by decide) hq
  have C₂ := C.noted rfl FO' n
  obtain ⟨ks, hdk, hk⟩ := hA
  have hee : e ≠ ex := fun z => by
   obtain ⟨o, _, _, q, _⟩ := hdk.keep C.X.gh
   rw [z, hen] at q; cases q
  refine wpAny_execs_cons (wpAny_Assign_two (callF1 C₂.X.gh B (kf.bn "sorted" (by decide)) bt_sorted (by decide) (nameL C₂ htr ?_)))
  refine sorted_labels_in (A := (A.deeper (eEdge L)).mark (some (.ref ex))) rfl x₂ hee he (hdk.keep C₂.X.gh) hk (up q).1 (up q).2 fun h₃ t₃ Bl k₃ hB hL => ?_
  (refine Exists.elim (C₂.kept k₃) fun g₃ zr1 => anE3 zr1 fun C₃ kg hg₃ => ?_; clear zr1)
  have hL₃ : LabsAt g₃ Bl (D.labs q) := by
   obtain ⟨vs, ee, q1, q2⟩ := hL
   exact ⟨vs, ee, hg₃ _ _ q1 hB, q2⟩
  refine assignSub (attrN C₃ hself (attr_own C₃.X.gh (B.keeps kg).X (I₀.keeps kg) p.1 kf.hh p.2 (by rfl) rfl fun t₄ => nameL C₃ hs ?_))
  have hd₃ : h₃.DictOf (IK w) U kvs := C₃.get (OutD w U kvs) (by simp)
  refine wpAny_setItem_pairs (s := ⟨h₃, gs, dr, t₄, os⟩) (knd := IK w) (k := q) (intKind_is P w q tq) hd₃ (fun h₅ hd₅ hs₅ => ?_) (Nat.le_trans hz (by decide))
  have C₃' : Cur V g₀ h₀ L g₃ h₃ m (fo ++ (U, fun h => h.DictOf (IK w) U kvs) :: []) := C₃
  have C₅ := C₃'.upd (Pr' := fun h => h.DictOf (IK w) U (stored kvs q (.ref Bl))) hs₅ (by
   obtain ⟨o, es, ep, ho, rr⟩ := hd₅
   exact .ex ho fun h'' e => ⟨o, es, ep, e, rr⟩)
  refine wpAny_assign_Name (storeL C₅ fun h₆ t₆ C₆ _ => wpAny_execs_nil ?_)
  refine H g₃ h₆ t₆ _ (stored kvs q (.ref Bl)) Bl kg C₆ (fun q' v hv => ?_) (by rw [stored_new hat]; simp) sam hL₃ fun y hy => if_neg hy
  rw [valueAt_new hat] at hv
  by_cases z : q' = q
  ·subst q'
   rw [if_pos rfl] at hv
   exact ⟨Bl, (Option.some.inj hv).symm, hL₃⟩
  ·rw [if_neg z] at hv
   obtain ⟨a, r1, r2⟩ := OK q' v hv
   exact ⟨a, r1, r2.keeps kg⟩
end
end
section
open PySem PySem.W PyProof.Rows
theorem lookup_mem {l : List (Nat × Int)} {k : Nat} {i : Int} (h : l.lookup k = some i) : k ∈ l.map (·.1) := by
 induction l with
 | nil => simp at h
 | cons x l ih =>
  obtain ⟨a, b⟩ := x
  rw [List.lookup_cons] at h
  by_cases e : k = a
  ·subst e; simp
  ·rw [beq_false_of_ne e] at h
   simp [ih h]
section
variable {w : World} {A : Around} {E : Value → Shared → Prop} {K : Frag} {mg mb : Str → Option Value} {gs : Array GenState} {dr : Drawn} {os : OsState} {g h : Heap} {t : Tok} {env : Env}
theorem callG2 {x : Str} {f : Addr} {p pos : Pos} {e e' : Expr} {Q : Value → Shared → Prop} (gh : Keep g h) (B : Base w K mg mb g) (ex : nsIn K mainGlobals x = some (some (.ref f))) (kp : keepIn K (.ref f) = true)
  (H : wpAny (model P w) A (eval e env) (fun v s => wpAny (model P w) A (eval e' env) (fun v' s' => K.In s'.heap ∧ codeAny (model P w) A (.call (.ref f) ⟨[v, v'], []⟩) (back Q E) s') E s) E ⟨h, gs, dr, t, os⟩)
  (h1 : starEach [e, e'] env = (false, eval e env) :: starEach [e'] env := by rfl) (h2 : starEach [e'] env = (false, eval e' env) :: starEach [] env := by rfl)
  (hg : env.globals = mainGlobals := by rfl) (hb : env.builtins = builtinsNs := by rfl) (hk : env.scope.kind = .function := by rfl) (hx : env.kindOf x = some .globalImplicit := by rfl) (hd : (x == ("__debug__" : Str)) = false := by decide) :
  wpAny (model P w) A (eval (.Call (.Name x p) [e, e'] [] pos) env) Q E ⟨h, gs, dr, t, os⟩ :=
 wpAny_Call_NameR (nameG gh B ex (callWith_K (h₀ := g) B.X kp (wpAny_items_cons (wpAny_mono H (fun v s₁ h₁ => wpAny_items_cons (wpAny_mono h₁ (fun v' s₂ h₂ => wpAny_items_nil ⟨h₂.1, wpAny_call h₂.2⟩) fun _ _ z => z) h2) fun _ _ z => z) h1) h1 (by rw [h2]; rfl)) hg hb hk hx hd)
end
section
variable {w : World} {A : Around} {E : Value → Shared → Prop} {R : Result → Shared → Prop} {K : Frag} {mg mb : Str → Option Value} {gs : Array GenState} {dr : Drawn} {os : OsState}
 {g h : Heap} {t : Tok} {d dx T Df F U : Addr} {D : Dfa} {fo : List Ent} {outer : List Env} {kvs : List (Int × Value)} {q : Int} {tq : Tok}
theorem edge_spec (kf : KF8 K) (gh : Keep g h) (B : Base w K mg mb g) (hroom : A.depth + 1 < recursionLimit) (hh : A.handled = none) (hfr : A.frames = some outer) (FO : FrIn outer fo) (I : DfaAt w g d dx T Df F U D) (up : D.Up) (hsU : (U == sysModules) = false)
  (O : Own g h (fo ++ [OutD w U kvs])) (OK : OutOk g D kvs) (hz : kvs.length ≤ 1000) {lo : Option Nat} {lv : Value} (hv : LV lo lv) (hlo : ∀ c, lo = some c → c ≤ 100000)
  (H : ∀ g' h' t' v kvs', Ext (adr (fo ++ [OutD w U kvs])) g h g' h' → Own g' h' (fo ++ [OutD w U kvs']) → OutOk g' D kvs' → kvs'.length ≤ kvs.length + 1 → LV (D.edge q (lo.elim 0 (· + 1))) v → R (.ok (.ret v)) ⟨h', gs, dr, t', os⟩) :
  codeAny (model P w) A (.call (.ref 220) ⟨[.ref d, .int q tq, lv], [("asbytes", .bool false)]⟩) R ⟨h, gs, dr, t, os⟩ := by
 refine exE2 I.inst fun td n I₀ => ?_
 obtain ⟨kvT, hT, hA⟩ := I.tab
 refine enter (adr (fo ++ [OutD w U kvs])) (fo ++ [OutD w U kvs]) O (fun e me => ⟨e, me, rfl⟩) (binds := [("self", .ref d), ("s", .int q tq), ("label", lv), ("asbytes", .bool false)]) gh B.X B.lim kf.mEdge.fn (by lia) (fun pm => .of_eq (by with_unfolding_all rfl)) (by rfl) (fun h₁ L t₁ C _ => ?_) (by rfl) (by rfl) (by rfl) (by decide +kernel)
 have p1 := kf.pg "transitions" (by decide)
 have p2 := kf.pg "defaults" (by decide)
 refine edge_label kf B C hv hlo (by rfl) (by rfl) fun h₂ t₂ tl C₂ => ?_
 generalize hk : (lo.elim 0 (· + 1) : Nat) = k at C₂ H
 refine wpAny_execs_cons (assignL (get2_ (knd := IK w) (attrN C₂ (by rfl) (attr_own C₂.X.gh B.X I₀ p1.1 kf.hh p1.2 (by rfl) rfl fun t₃ =>
  (exI2 T _ (anI4 rfl I.sys.1 ((hT.keep C₂.X.gh).mapOf) (nameL C₂ (by rfl) (dict0 C₂ fun e g₃ h₃ C₃ x₃ he hn => (exI3 h₃ _ q (anI4 rfl (intKind_is P w q tq) (((hT.keep x₃.gg).keep C₃.X.gh).mapOf) (fun t₄ => ?_)))))))))))
 have zh1 : ∃ a, (valueAt kvT q).getD (.ref e) = .ref a ∧ (a == sysModules) = false ∧ ArcsAt w g₃ a (D.arcs q) := by
  rcases hA.at q with zc | ⟨h1, h2⟩
  ·(refine exE2 zc fun l a zr1 => anE4 zr1 fun h1 h2 h3 h4 => ?_; clear zc zr1)
   exact ⟨a, (anI3 (by rw [h2]; rfl) h4 (by rw [Dfa.arcs, h1]; exact h3.keeps x₃.gg))⟩
  ·refine ⟨e, (anI3 (by rw [h2]; rfl) ?_ ?_)⟩
   ·exact B.newSys C₂.X.gh hn
   ·rw [Dfa.arcs, h1]
    exact ⟨[], ⟨_, #[], 0, he, ⟨rfl, rfl, rfl⟩, rfl, fun _ z => by simp at z, .nil, .nil⟩, .nil⟩
 refine Exists.elim zh1 fun tv zr2 => anE3 zr2 fun htv hsv ha => ?_
 clear zh1 zr2
 rw [htv]
 have B₃ := B.keeps x₃.gg
 have I₃ := I.keeps x₃.gg
 refine storeL C₃ fun h₅ t₅ C₅ _ => ?_
 obtain ⟨ks, hd, hks⟩ := ha
 have hd₅ := (hd.keep C₅.X.gh).mapOf
 have hf₅ := ((I.dfl.keep x₃.gg).keep C₅.X.gh).mapOf
 refine wpAny_execs_cons (wpAny_If (isTrue_or (wpAny_isTrue_Compare1 (nameL C₅ (by rfl) (nameL C₅ (by rfl) (wpAny_in_of (knd := SK w) (k := ch k) (strKind_is P w _ _) hsv hd₅ (wpAny_truthy_bool ?_)))))))
 rcases hks.at k with ⟨i, ti, h1, h2⟩ | ⟨h1, h2⟩
 ·rw [h2]
  refine wpAny_execs_cons (wpAny_Return_some (nameL C₅ (by rfl) ?_))
  refine H g₃ h₅ _ _ kvs C₅.X C₅.O (OK.keeps x₃.gg) (by lia) ?_
  have e1 : D.edge q k = some k := edge_self (up q).1 (lookup_mem h1)
  rw [e1]
  exact .some
 rw [h2]
 refine isTrue_or (wpAny_isTrue_Compare1 (nameL C₅ (by rfl) (attrN C₅ (by rfl) (attr_own C₅.X.gh B₃.X (I₀.keeps x₃.gg) p2.1 kf.hh p2.2 (by rfl) rfl fun t₆ => wpAny_in_of (s := ⟨h₅, gs, dr, t₆, os⟩) (knd := IK w) (k := q) (intKind_is P w q tq) I.sys.2 hf₅ (wpAny_truthy_bool ?_)))))
 show wpAny _ _ (isTrue (.BoolOp .Or [] _) _ _) _ _ _
 refine isTrue_or_nil (wpAny_execs_nil ?_)
 refine edge_find kf B₃ hh hfr FO I₃ up hsU C₅ (OK.keeps x₃.gg) hz (by rfl) (by rfl) (by rfl) ⟨ks, hd, hks⟩ hsv fun g₇ h₇ t₇ m₇ kvs' a k₇ C₇ OK₇ hz₇ hL hlab hm₇ => ?_
 have B₇ := B₃.keeps k₇
 have hlen : (D.labs q).length < 64 := by simp [Dfa.labs]; exact (up q).2
 have hlabel : m₇ "label" = some (.str (ch k) tl) := (hm₇ _ (by decide)).trans (by rfl)
 refine wpAny_execs_cons (assignL (callG2 C₇.X.gh B₇ kf.gBis kf.kBis (nameL C₇ hL (nameL C₇ hlabel ⟨B₇.X.keeps C₇.X.gh, bisect_spec kf.toKF7 C₇.X.gh B₇ hroom hlab (by lia) fun g₈ h₈ t₈ t₈' x₈ => ?_⟩))))
 refine storeL (C₇.ro x₈) fun h₉ t₉ C₉ _ => ?_
 have B₉ := B₇.keeps x₈.gg
 (refine Exists.elim (((hlab.keeps x₈.gg).keeps C₉.X.gh).isList) fun vs zr3 => anE3 zr3 fun isl hvs at_ => ?_; clear zr3)
 have bl := bis_le (D.labs q) k
 refine wpAny_execs_cons (wpAny_If (wpAny_isTrue_Compare1 (nameL C₉ sam (lenList C₉.X.gh kf.toKF6 B₉ isl (by lia) (fun Q' hq => nameL C₉ (oth hL) hq) fun t₁₀ t₁₀' => PyProof.Rows.lt_int (wpAny_truthy_bool ?_)))))
 by_cases c1 : bis (D.labs q) k < (D.labs q).length
 ·rw [decide_eq_true (show ((bis (D.labs q) k : Nat) : Int) < (vs.size : Int) by lia)]
  obtain ⟨c, hc⟩ : ∃ c, (D.labs q)[bis (D.labs q) k]? = some c := ⟨_, List.getElem?_eq_getElem c1⟩
  obtain ⟨tc, hvc⟩ := at_ _ c hc
  refine wpAny_execs_cons (wpAny_Return_some (itemList isl hvc (by lia) (fun Q' hq => nameL C₉ (oth hL) hq) (fun Q' hq => nameL C₉ sam hq) ?_))
  refine H g₈ h₉ _ _ kvs' C₉.X C₉.O (OK₇.keeps x₈.gg) hz₇ ?_
  rw [Dfa.edge, ← bis_get, hc]
  exact .some
 ·rw [decide_eq_false (show ¬ ((bis (D.labs q) k : Nat) : Int) < (vs.size : Int) by lia)]
  refine wpAny_execs_nil (wpAny_execs_cons (wpAny_Return_some (constN ?_)))
  refine H g₈ h₉ _ _ kvs' C₉.X C₉.O (OK₇.keeps x₈.gg) hz₇ ?_
  rw [Dfa.edge, ← bis_get, List.getElem?_eq_none (by lia)]
  exact .none
end
end
section
open PySem PySem.W PyProof.Rows
theorem Cur.news {V : Addr → Prop} {g₀ h₀ : Heap} {L : Addr} {g h h' : Heap} {m} {ow : List Ent} (C : Cur V g₀ h₀ L g h m ow) (k : Keep h h') {l : List Addr} (nd : l.Nodup) (hn : ∀ a ∈ l, h.get? a = none) (hl : ∀ a ∈ l, h'.get? a ≠ none) :
  Cur V g₀ h₀ L g h' m (l.map (fun a => ((a, fun _ => True) : Ent)) ++ ow) ∧ ∀ a ∈ l, h₀.get? a = none := by
 have old : ∀ b, h.get? b = none → h₀.get? b = none := fun b q => by
  cases r : h₀.get? b with
  | none => rfl
  | some o => exact absurd q (C.X.live b (by rw [r]; exact Option.some_ne_none _))
 have ent : ∀ e ∈ l.map (fun a => ((a, fun _ => True) : Ent)), e.1 ∈ l := fun e me => by
  obtain ⟨a, ma, rfl⟩ := List.mem_map.mp me
  exact ma
 have m1 : (l.map (fun a => ((a, fun _ => True) : Ent))).map (·.1) = l := by rw [List.map_map]; exact List.map_id' l
 refine ⟨⟨⟨C.X.gg, C.X.gh.trans k, fun b o nv e => k _ _ (C.X.old b o nv e), fun b e => live_of_keep k b (C.X.live b e), C.X.fresh⟩, ⟨Ns_at C.F.ns fun o e => k _ _ e, C.F.off⟩, C.new, ⟨fun e me => ?_, ?_, fun e me => ?_⟩, fun e me => ?_, fun e me => ?_⟩, fun a ma => old a (hn a ma)⟩
 ·rcases List.mem_append.mp me with q | q
  ·obtain ⟨a, ma, rfl⟩ := List.mem_map.mp q
   cases r : h'.get? a with
   | none => exact absurd r (hl a ma)
   | some o => exact ⟨o, r, fun _ _ _ => trivial⟩
  ·obtain ⟨o, r, s⟩ := C.O.at_ e q
   exact ⟨o, k _ _ r, s⟩
 ·rw [List.map_append, m1, List.nodup_append]
  refine (anI3 nd C.O.nd (fun a ma b mb z => ?_))
  obtain ⟨e, me, rfl⟩ := List.mem_map.mp mb
  exact (C.O.at_ e me).live (z ▸ hn a ma)
 ·rcases List.mem_append.mp me with q | q
  ·have := hn e.1 (ent e q)
   cases r : g.get? e.1 with
   | none => rfl
   | some o => rw [C.X.gh _ _ r] at this; cases this
  ·exact C.O.off e q
 ·rcases List.mem_append.mp me with q | q
  ·exact fun z => Ns_some C.F.ns (z ▸ hn e.1 (ent e q))
  ·exact C.nL e q
 ·rcases List.mem_append.mp me with q | q
  ·exact .inr (old _ (hn e.1 (ent e q)))
  ·exact C.vis e q
section
variable {w : World} {A : Around} {E : Value → Shared → Prop} {R : Result → Shared → Prop} {env : Env} {gs : Array GenState} {dr : Drawn} {os : OsState} {t : Tok}
 {V : Addr → Prop} {g₀ h₀ g h : Heap} {m : Str → Option Value} {ow : List Ent} {target : Expr} {body orelse : List Stmt}
theorem enum_feed {x : Str} {e it : Addr} {St : Nat → Heap → Prop} {h' : Heap} (hh : A.handled = none) (hk : env.scope.kind = .function) (D : Draws P w A.in1 it [it] x.cps.size (fun i v => ∃ c u, x.cps[i]? = some c ∧ v = .str ⟨#[c]⟩ u) St) (hei : e ≠ it)
  (hlive : ∀ i h, St i h → h.get? it ≠ none) (he : PySem.IsEnum h' e it 0 .none) (hs : St 0 h') (gh : Keep g h') (hnew : ∀ a ∈ [e, it], h₀.get? a = none) :
  FeedP w A env e x.cps.size g h₀ ([e, it].map fun a => ((a, fun _ => True) : Ent)) (fun i h => ((∃ old, PySem.IsEnum h e it i old) ∧ St i h) ∧ Keep g h) (fun i a b => (∃ t, a = .int i t) ∧ SignAt x i b) h' := by
 have W := WalksT.enumerateD D e hei (by simpa using hei) (by simp)
 refine ⟨fun x px y py k0 pt hx hy => (Feed.pair hh (Pairs.of W) (fun b mb => .inl (by simpa using mb)) (fun i h st b mb => ?_) (fun i vals hp => ?_) hk hx hy).pm ?_, fun b mb => hnew b (by simpa using mb), ⟨⟨⟨_, he⟩, hs⟩, gh⟩⟩
 ·obtain ⟨⟨old, hE⟩, hS⟩ := st
  rcases List.mem_cons.mp mb with rfl | mb
  ·rw [hE]; exact Option.some_ne_none _
  ·rw [List.mem_singleton.mp mb]; exact hlive i h hS
 ·(refine exE2 hp fun t x zr2 => anE2 zr2 fun _ ze1 => ?_; clear hp zr2; subst ze1); rfl
 ·rintro i m m' ⟨a, b, ⟨t, x, hx, z⟩, rfl⟩
  simp only [Array.mk.injEq, List.cons.injEq, and_true] at z
  obtain ⟨rfl, rfl⟩ := z
  exact (exI2 _ _ ⟨⟨⟨t, rfl⟩, hx⟩, rfl⟩)
theorem forEnum {x : Str} {tx : Tok} (hh : A.handled = none) (C : Cur V g₀ h₀ env.locals g h m ow)
  (H : ∀ I h' fe St, Cur V g₀ h₀ env.locals g h' m (fe ++ ow) → FeedP w A env I x.cps.size g h₀ fe St (fun i a b => (∃ t, a = .int i t) ∧ SignAt x i b) h' → codeAny (model P w) A (.forLoop target (.ref I) body orelse env) R ⟨h', gs, dr, t, os⟩)
  (hk : env.scope.kind = .function := by rfl) :
  wpAny (model P w) A (call (.type "enumerate") [.str x tx]) (fun v s => wpAny (model P w) A (pyIter v) (fun it s₂ => codeAny (model P w) A (.forLoop target it body orelse env) R s₂) E s) E ⟨h, gs, dr, t, os⟩ := by
 refine call_enumerate_str (s := ⟨h, gs, dr, t, os⟩) fun h' hE hI hz k => ?_
 have hne : h.objs.size + 1 ≠ h.objs.size := Nat.succ_ne_self _
 obtain ⟨C', hnew⟩ := C.news (h' := h') (l := [h.objs.size + 1, h.objs.size]) k (by simp) (fun a ma => by
  cases q : h.get? a with
  | none => rfl
  | some o =>
   have := Heap.lt_size q
   simp only [List.mem_cons, List.not_mem_nil, or_false] at ma
   rcases ma with rfl | rfl
   ·exact absurd this (Nat.not_lt.mpr (Nat.le_succ _))
   ·exact absurd this (Nat.lt_irrefl _)) (fun a ma => by
  simp only [List.mem_cons, List.not_mem_nil, or_false] at ma
  rcases ma with rfl | rfl
  ·rw [hE]; exact Option.some_ne_none _
  ·obtain ⟨o, q, _⟩ := hI; rw [q]; exact Option.some_ne_none _)
 cases ha : x.cps.all (· < 128)
 ·have e1 : strIterType x = "str_iterator" := by simp [strIterType, ha]
  rw [e1] at hI
  have D := Draws.strWide (prog := P) (w := w) (A := A.in1) hh h.objs.size x tx
  refine WalksT.self (WalksT.enumerateD D _ hne (by simpa using hne) (by simp)) 0 _ _ _ ⟨⟨_, hE⟩, hI⟩ ?_
  exact H _ h' _ _ C' (enum_feed hh hk D hne (fun i h st => by obtain ⟨o, q, _⟩ := st; rw [q]; exact Option.some_ne_none _) hE hI C'.X.gh hnew)
 ·have e1 : strIterType x = "str_ascii_iterator" := by simp [strIterType, ha]
  rw [e1] at hI
  have D := Draws.strAscii (prog := P) (w := w) (A := A.in1) hh h.objs.size x tx
  refine WalksT.self (WalksT.enumerateD D _ hne (by simpa using hne) (by simp)) 0 _ _ _ ⟨⟨_, hE⟩, hI⟩ ?_
  exact H _ h' _ _ C' (enum_feed hh hk D hne (fun i h st => by obtain ⟨o, q, _⟩ := st; rw [q]; exact Option.some_ne_none _) hE hI C'.X.gh hnew)
end
end
section
open PySem PySem.W PyProof.Rows
noncomputable abbrev Ent3 := List Nat × Int × Option Nat
noncomputable def EntIs (g : Heap) (v : Value) (x : Ent3) : Prop := ∃ a tp tq lv, v = .ref a ∧ g.IsTuple a #[.str (st x.1) tp, .int x.2.1 tq, lv] ∧ LV x.2.2 lv
theorem EntIs.keeps {g h : Heap} {v x} (e : EntIs g v x) (k : Keep g h) : EntIs h v x := by
 obtain ⟨a, tp, tq, lv, e1, ⟨o, ho, r⟩, e3⟩ := e
 exact ⟨a, tp, tq, lv, e1, ⟨o, k _ _ ho, r⟩, e3⟩
inductive RowIs (g : Heap) : List Value → List Ent3 → Prop
 | nil : RowIs g [] []
 | cons {v x vs xs} : EntIs g v x → RowIs g vs xs → RowIs g (v :: vs) (x :: xs)
theorem RowIs.keeps {g h : Heap} {vs xs} (e : RowIs g vs xs) (k : Keep g h) : RowIs h vs xs := by
 induction e with
 | nil => exact .nil
 | cons a _ ih => exact .cons (a.keeps k) ih
theorem RowIs.snoc {g : Heap} {vs xs v x} (e : RowIs g vs xs) (a : EntIs g v x) : RowIs g (vs ++ [v]) (xs ++ [x]) := by
 induction e with
 | nil => exact .cons a .nil
 | cons b _ ih => exact .cons b ih
theorem RowIs.length {g : Heap} {vs xs} (e : RowIs g vs xs) : vs.length = xs.length := by
 induction e with
 | nil => rfl
 | cons _ _ ih => simp [ih]
theorem RowIs.last {g : Heap} {xs : List Ent3} : ∀ {vs : List Value} {x : Ent3}, RowIs g vs (xs ++ [x]) → ∃ vs' v, vs = vs' ++ [v] ∧ RowIs g vs' xs ∧ EntIs g v x := by
 induction xs with
 | nil =>
  intro vs x h
  cases h with
  | cons a r => cases r; exact (exI2 ([]) _ (anI3 rfl .nil a))
 | cons y xs ih =>
  intro vs x h
  cases h with
  | cons a r =>
   (refine exE2 (ih r) fun vs' v zr1 => anE3 zr1 fun e r' b => ?_; clear zr1)
   exact (exI2 (_ :: vs') v (anI3 (by rw [e]; rfl) (.cons a r') b))
noncomputable def StkE (S : Addr) (vs : List Value) : Ent := (S, fun h => h.PlainList S vs.toArray)
structure KF9 (K : Frag) : Prop extends KF8 K where
 mNvs : Meth K 245 "next_valid_string" "DFA.next_valid_string" 213 212 (clsSt 5 7) (.ref 206)
 dNvs : ∃ o n, K.lookup 206 = some o ∧ o.data = .seq #[.bool false] n
noncomputable abbrev eNvs (L : Addr) : Env := envOf "DFA.next_valid_string" (fnOfSt (clsSt 5 7)).scope L 213 (.ref 212)
noncomputable abbrev nvsSt (i : Nat) : Stmt := (fnOfSt (clsSt 5 7)).body.getD i (.Pass default)
section
variable {w : World} {A : Around} {E : Value → Shared → Prop} {R : Result → Shared → Prop} {K : Frag} {mg mb : Str → Option Value} {gs : Array GenState} {dr : Drawn} {os : OsState}
 {V : Addr → Prop} {g₀ h₀ g h : Heap} {t : Tok} {L S : Addr} {m : Str → Option Value} {l r : List Ent} {vs : List Value}
theorem stack_push {e1 e2 e3 : Expr} {k0 : Nat} {p1 p2 p3 p4 p5 : Pos} {p : List Nat} {q : Int} {tq : Tok} {lo : Option Nat} {lv : Value} (C : Cur V g₀ h₀ L g h m (l ++ StkE S vs :: r)) (hS : m "stack" = some (.ref S)) (hz : vs.length ≤ 1000) (hv : LV lo lv)
  (h1 : ∀ Q', (∀ h' t' tt, Keep h h' → Q' (.str (st p) tt) ⟨h', gs, dr, t', os⟩) → wpAny (model P w) A (eval e1 (eNvs L)) Q' E ⟨h, gs, dr, t, os⟩)
  (h2 : ∀ h' t' Q', Keep h h' → Q' (.int q tq) ⟨h', gs, dr, t', os⟩ → wpAny (model P w) A (eval e2 (eNvs L)) Q' E ⟨h', gs, dr, t', os⟩)
  (h3 : ∀ h' t' Q', Keep h h' → Q' lv ⟨h', gs, dr, t', os⟩ → wpAny (model P w) A (eval e3 (eNvs L)) Q' E ⟨h', gs, dr, t', os⟩) {Q : Flow → Shared → Prop}
  (H : ∀ g' h' t' v, Keep g g' → Cur V g₀ h₀ L g' h' m (l ++ StkE S (vs ++ [v]) :: r) → EntIs g' v (p, q, lo) → Q .next ⟨h', gs, dr, t', os⟩)
  (s1 : starEach [e1, e2, e3] (eNvs L) = (false, eval e1 (eNvs L)) :: starEach [e2, e3] (eNvs L) := by rfl) (s2 : starEach [e2, e3] (eNvs L) = (false, eval e2 (eNvs L)) :: starEach [e3] (eNvs L) := by rfl) (s3 : starEach [e3] (eNvs L) = (false, eval e3 (eNvs L)) :: starEach [] (eNvs L) := by rfl)
  (hline : (p2.endLine == p3.line) = true := by rfl) :
  wpAny (model P w) A (exec (.Expr (.Call (.Attribute (.Name "stack" p1) "append" p2) [.Tuple [e1, e2, e3] k0 p4] [] p3) p5) (eNvs L)) Q E ⟨h, gs, dr, t, os⟩ := by
 have hrow : h.PlainList S vs.toArray := C.get (StkE S vs) (by simp)
 refine wpAny_Expr (bmeth1_ (nameL C hS (exI2 ("list") ("list.append") (anI6 PySem.F.plainAttrs_list PySem.F.slot_list_append PySem.F.type_list_append hrow.isList.typeIs (fun a' e => ?_) (wpAny_Tuple ?_)))) (hline := hline))
 ·cases e; obtain ⟨n, e⟩ := hrow; exact ⟨_, e, rfl⟩
 refine wpAny_items_cons (h1 _ fun h₁ t₁ tt k₁ => wpAny_items_cons (h2 h₁ t₁ _ k₁ (wpAny_items_cons (h3 h₁ t₁ _ k₁ (wpAny_items_nil ⟨(by show 3 ≤ sizeLine; decide), ?_⟩)) s3)) s2) s1
 have kt : Keep h (h₁.push { cls := .type "tuple", data := .seq [Value.str (st p) tt, .int q tq, lv].toArray }) := k₁.trans (Keep.push _ _)
 (refine Exists.elim (C.kept kt) fun g₂ zr2 => anE3 zr2 fun C₂ kg hg₂ => ?_; clear zr2)
 have hrow₂ := C₂.get (StkE S vs) (by simp)
 have hnone : h.get? h₁.objs.size = none := by
  cases z : h.get? h₁.objs.size with
  | none => rfl
  | some o => exact absurd (k₁ _ _ z) (by rw [size_none]; exact fun z => by cases z)
 refine wpAny_list_append_plain (s := ⟨_, gs, dr, t₁, os⟩) hrow₂ (fun h₃ hr₃ hs₃ => ?_) (by simp [sizeLine_eq]; lia)
 have hr₃' : h₃.PlainList S (vs ++ [Value.ref h₁.objs.size]).toArray := by
  have e : (vs ++ [Value.ref h₁.objs.size]).toArray = vs.toArray.push (.ref h₁.objs.size) := by simp
  rw [e]; exact hr₃
 have C₃ := C₂.upd (Pr' := fun h => h.PlainList S (vs ++ [Value.ref h₁.objs.size]).toArray) hs₃ (by
  obtain ⟨n, e⟩ := hr₃'
  exact .ex e fun h'' e' => ⟨n, e'⟩)
 exact H g₂ h₃ _ (.ref h₁.objs.size) kg C₃ ⟨_, tt, tq, lv, rfl, ⟨_, hg₂ _ _ (Heap.get?_push_size _ rfl) hnone, rfl, _, rfl⟩, hv⟩
end
end
section
open PySem PySem.W PyProof.Rows
section
variable {w : World} {A : Around} {E : Value → Shared → Prop} {R : Result → Shared → Prop} {K : Frag} {mg mb : Str → Option Value} {gs : Array GenState} {dr : Drawn} {os : OsState}
 {V : Addr → Prop} {g₀ h₀ g h : Heap} {t : Tok} {L S : Addr} {m : Str → Option Value} {l r : List Ent} {vs : List Value}
theorem stack_pop {k0 : Nat} {a1 a2 a3 a4 p1 p2 p3 p5 : Pos} {p : List Nat} {q : Int} {lo : Option Nat} {v : Value} (hh : A.handled = none) (C : Cur V g₀ h₀ L g h m (l ++ StkE S (vs ++ [v]) :: r)) (hS : m "stack" = some (.ref S)) (hz : vs.length ≤ 1000) (hE : EntIs g v (p, q, lo)) {Q : Flow → Shared → Prop}
  (H : ∀ g' h' t' tp tq lv, Keep g g' → Cur V g₀ h₀ L g' h' (fun y => if y = "label" then some lv else if y = "state" then some (.int q tq) else if y = "path" then some (.str (st p) tp) else m y) (l ++ StkE S vs :: r) → LV lo lv → Q .next ⟨h', gs, dr, t', os⟩)
  (hline : (p2.endLine == p3.line) = true := by rfl) :
  wpAny (model P w) A (exec (.Assign [.Tuple [.Name "path" a1, .Name "state" a2, .Name "label" a3] k0 a4] (.Call (.Attribute (.Name "stack" p1) "pop" p2) [] [] p3) p5) (eNvs L)) Q E ⟨h, gs, dr, t, os⟩ := by
 have hrow : h.PlainList S (vs ++ [v]).toArray := C.get (StkE S (vs ++ [v])) (by simp)
 obtain ⟨a, tp, tq, lv, rfl, hT, hlv⟩ := hE
 refine wpAny_Assign_stores (bmeth0_ (nameL C hS (exI2 ("list") ("list.pop") (anI6 PySem.F.plainAttrs_list PySem.F.slot_list_pop PySem.F.type_list_pop hrow.isList.typeIs (fun a' e => ?_) ?_))) (hline := hline)) rfl rfl
 ·cases e; obtain ⟨n, e⟩ := hrow; exact ⟨_, e, rfl⟩
 refine call_pop hrow (by omega) fun h₁ hr₁ hs₁ => ?_
 have C₁ := C.upd (Pr' := fun h => h.PlainList S vs.toArray) hs₁ (by
  obtain ⟨n, e⟩ := hr₁
  exact .ex e fun h'' e' => ⟨n, e'⟩)
 have hT₁ : h₁.IsTuple a #[.str (st p) tp, .int q tq, lv] := by obtain ⟨o, ho, rr⟩ := hT; exact ⟨o, C₁.X.gh _ _ ho, rr⟩
 show wpAny _ _ (assign (.Tuple [.Name "path" a1, .Name "state" a2, .Name "label" a3] k0 a4) (eNvs L) (.ref a)) _ _ _
 refine wpAny_assign_Tuple (s := ⟨h₁, gs, dr, t, os⟩) hh hT₁ (by rfl) (by rfl) fun h₂ he => ?_
 (refine Exists.elim (C₁.kept (h' := h₂) fun b o e => he b o (Nat.ne_of_lt (Heap.lt_size e)) e) fun g₂ zr1 => anE3 zr1 fun C₂ kg _ => ?_; clear zr1)
 refine wpAny_bind (wpAny_holding (wpAny_assign_Name (storeL C₂ fun h₃ t₃ C₃ _ => ?_)))
 refine wpAny_bind (wpAny_holding (wpAny_assign_Name (storeL C₃ fun h₄ t₄ C₄ _ => ?_)))
 refine wpAny_bind (wpAny_holding (wpAny_assign_Name (storeL C₄ fun h₅ t₅ C₅ _ => ?_)))
 exact wpAny_pure (H g₂ h₅ t₅ tp tq lv kg C₅ hlv)
end
end
section
open PySem PySem.W PyProof.Rows
section
variable {w : World} {A : Around} {E : Value → Shared → Prop} {R : Result → Shared → Prop} {K : Frag} {mg mb : Str → Option Value} {gs : Array GenState} {dr : Drawn} {os : OsState}
 {V : Addr → Prop} {g₀ h₀ g h : Heap} {t : Tok} {L S : Addr} {m : Str → Option Value} {fo : List Ent} {d dx T Df F U : Addr} {D : Dfa}
theorem nvs_for (kf : KF9 K) (B : Base w K mg mb g) (hroom : A.depth + 1 < recursionLimit) (hh : A.handled = none) (I : DfaAt w g d dx T Df F U D) (nz : D.NoZero) {l : List Nat} {tl t0 ti : Tok} (hz : l.length ≤ 500)
  (C : Cur V g₀ h₀ L g h m (fo ++ [StkE S []])) (hself : m "self" = some (.ref d)) (hstr : m "string" = some (.str (st l) tl)) (hS : m "stack" = some (.ref S)) (hst : m "state" = some (.int 0 t0)) (hi : m "i" = some (.int 0 ti)) {Q : Flow → Shared → Prop}
  (H : ∀ g' h' t' m' vs rv, Keep g g' → Cur V g₀ h₀ L g' h' m' (fo ++ [StkE S vs]) → RowIs g' vs (D.trail 0 [] l) → vs.length ≤ l.length + 1 → OV (D.run 0 l) rv → m' "state" = some rv → (∀ y : Str, y ∉ (["i", "label", "state"] : List Str) → m' y = m y) → Q .next ⟨h', gs, dr, t', os⟩) :
  wpAny (model P w) (A.deeper (eNvs L)) (exec (nvsSt 3) (eNvs L)) Q E ⟨h, gs, dr, t, os⟩ := by
 refine wpAny_noRaise (wpAny_For (callT1 C.X.gh B (kf.bn "enumerate" (by decide)) bt_enumerate (by decide) (nameL C hstr (forEnum hh C fun it h₂ fe St C₂ FP => ?_))))
 have hsz : (st l).cps.size = l.length := by simp [st]
 refine forLoop (FP.feed "i" _ "label" _ _ _ (by rfl) (by rfl)) (fun i g' m' ow => ∃ vs rows q tq, ow = fo ++ [StkE S vs] ∧ RowIs g' vs rows ∧ vs.length = i ∧ D.trail 0 [] l = rows ++ D.trail q (l.take i) (l.drop i) ∧ D.run 0 (l.take i) = some q ∧ m' "state" = some (.int q tq) ∧
   (∃ ti, m' "i" = some (.int ((i - 1 : Nat) : Int) ti)) ∧ (∀ y : Str, y ∉ (["i", "label", "state"] : List Str) → m' y = m y)) C₂ rfl FP.new FP.st
  (exI4 ([]) ([]) 0 t0 (anI8 rfl .nil rfl (by simp) (by simp [Dfa.run]) hst ⟨ti, hi⟩ (fun _ _ => rfl))) (fun i g₅ h₅ m₁ m₅ ow fe₅ t₅ hi k₅ hj hp C₅ => ?_) (fun g₅ h₅ m₅ ow t₅ k₅ hj C₅ => ?_)
 ·refine opaqueQ fun Qb Eb hQb _ => ?_
  (refine exE4 hj fun vs rows q tq zr2 => anE8 zr2 fun ze1 hR hvl htr hrun hq _ hm₁ => ?_; clear hj zr2; subst ze1)
  (refine exE2 hp fun va vb zr5 => anE2 zr5 fun zo3 ze4 => ?_; clear hp zr5; obtain ⟨⟨ta, rfl⟩, c, u, hc, rfl⟩ := zo3; subst ze4)
  have hc' : l[i]? = some c := by simpa [st] using hc
  have hil : i < l.length := (List.getElem?_eq_some_iff.mp hc').1
  have hdrop : l.drop i = c :: l.drop (i + 1) := by
   obtain ⟨hlt, e⟩ := List.getElem?_eq_some_iff.mp hc'
   rw [← e]; exact List.drop_eq_getElem_cons hlt
  have htake : l.take (i + 1) = l.take i ++ [c] := by rw [List.take_add_one, hc']; rfl
  rw [hdrop] at htr
  have hm₅ : ∀ y : Str, y ∉ (["i", "label", "state"] : List Str) → (fun z : Str => if z = "label" then some (Value.str ⟨#[c]⟩ u) else if z = "i" then some (.int i ta) else m₁ z) y = m y := fun y hy => by
   simp only [List.mem_cons, List.not_mem_nil, or_false, not_or] at hy
   exact (if_neg hy.2.1).trans ((if_neg hy.1).trans (hm₁ y (by simp [hy])))
  have I₅ := I.keeps k₅
  have B₅ := B.keeps k₅
  have C₅' : Cur V g₀ h₀ L g₅ h₅ _ ((fe₅ ++ fo) ++ StkE S vs :: []) := C₅.eq (by simp)
  refine wpAny_execs_cons (stack_push (tq := tq) (lo := some c) (q := q) (p := l.take i) C₅' ((hm₅ _ (by decide)).trans hS) (by omega) (LV.some (t := u)) (fun Q' hq' => ?_) (fun h' t' Q' k' hq' => ?_) (fun h' t' Q' k' hq' => ?_) fun g₆ h₆ t₆ v k₆ C₆ hE => ?_)
  ·exact sliceTo (nameL C₅ ((hm₅ _ (by decide)).trans hstr) (nameL C₅ (oth sam) (exI6 l tl i ta h₅ t₅ (anI5 rfl rfl rfl (by omega) (fun h' t' tt k' => hq' h' t' tt k')))))
  ·(refine Exists.elim (C₅.kept k') fun g' zr6 => anE3 zr6 fun C' _ _ => ?_; clear zr6)
   exact nameL C' (oth (oth hq)) hq'
  ·(refine Exists.elim (C₅.kept k') fun g' zr7 => anE3 zr7 fun C' _ _ => ?_; clear zr7)
   exact nameL C' sam hq'
  refine exE2 ((I₅.keeps k₆).inst) fun _ _ I₀ => ?_
  have B₆ := B₅.keeps k₆
  refine wpAny_execs_cons (assignL (meth2_ C₆ B₆.X ((hm₅ _ (by decide)).trans hself) I₀ kf.mNext (by rfl) (nameL C₆ (oth (oth hq)) (nameL C₆ sam ⟨B₆.X.keeps C₆.X.gh, ?_⟩))))
  refine next_state_spec kf.toKF C₆.X.gh B₆ hroom (I₅.keeps k₆) fun g₇ h₇ t₇ vn x₇ hn => ?_
  refine storeL (C₆.ro x₇) fun h₈ t₈ C₈ _ => ?_
  have hrun' : D.run 0 (l.take (i + 1)) = D.next q c := by
   rw [htake, Dfa.run_append, hrun]
   show D.run q [c] = _
   cases e : D.next q c <;> simp [Dfa.run, e]
  have C₈' : Cur V g₀ h₀ L g₇ h₈ _ (fe₅ ++ (fo ++ [StkE S (vs ++ [v])])) := C₈.eq (by simp)
  have hR₈ := (((hR.keeps k₆).keeps x₇.gg)).snoc (hE.keeps x₇.gg)
  have hm₈ : ∀ y : Str, y ∉ (["i", "label", "state"] : List Str) → (fun z : Str => if z = "state" then some vn else if z = "label" then some (Value.str ⟨#[c]⟩ u) else if z = "i" then some (.int i ta) else m₁ z) y = m y := fun y hy => by
   have := hm₅ y hy
   simp only [List.mem_cons, List.not_mem_nil, or_false, not_or] at hy
   exact (if_neg hy.2.2).trans this
  refine wpAny_execs_cons (wpAny_If (isTrue_not (isTrue_plain (nameL C₈ sam ?_))))
  have hnz : D.next q c ≠ some 0 := nz q c
  have htr' : D.trail q (l.take i) (c :: l.drop (i + 1)) = (l.take i, q, some c) :: match D.next q c with | none => [] | some r => D.trail r (l.take (i + 1)) (l.drop (i + 1)) := by rw [htake]; rfl
  rw [htr'] at htr
  cases e : D.next q c with
  | some r =>
   rw [e] at hn htr hrun'
   cases hn with
   | @int r tr =>
    refine truthy_int ?_
    have : (r != 0) = true := by simpa [bne_iff_ne] using fun z : r = 0 => hnz (by rw [e, z])
    rw [this]
    refine wpAny_execs_nil (wpAny_execs_nil (hQb _ _ ⟨g₇, h₈, _, _, t₈, rfl, k₆.trans x₇.gg, C₈', vs ++ [v], rows ++ [(l.take i, q, some c)], r, tr, rfl, hR₈, by simp [hvl], by rw [htr]; simp, hrun', sam, ⟨ta, oth (oth sam)⟩, hm₈⟩))
  | none =>
   rw [e] at hn htr hrun'
   cases hn
   refine truthy_none ?_
   refine wpAny_execs_cons (wpAny_Break ?_)
   have e2 : D.run 0 l = none := by
    rw [← List.take_append_drop (i + 1) l, Dfa.run_append, hrun']; rfl
   have C₉ : Cur V g₀ h₀ L g₇ h₈ _ (fo ++ [StkE S (vs ++ [v])]) := C₈'.drop (List.sublist_append_right _ _)
   exact hQb _ _ (H g₇ h₈ t₈ _ (vs ++ [v]) .none ((k₅.trans k₆).trans x₇.gg) C₉ (by rw [htr]; exact hR₈) (by simp [hvl]; omega) (by rw [e2]; exact .none) sam hm₈)
 ·refine opaqueQ fun Qb Eb hQb _ => ?_
  (refine exE4 hj fun vs rows q tq zr10 => anE8 zr10 fun ze8 hR hvl htr hrun hq zo9 hm₁ => ?_; clear hj zr10; subst ze8; obtain ⟨ti', hi'⟩ := zo9)
  rw [hsz] at htr hrun hvl hi'
  rw [List.take_length, List.drop_length] at htr
  rw [List.take_length] at hrun
  refine wpAny_execs_cons (stack_push (tq := tq) (lo := none) (q := q) (p := l) C₅ ((hm₁ _ (by decide)).trans hS) (by omega) LV.none (fun Q' hq' => ?_) (fun h' t' Q' k' hq' => ?_) (fun h' t' Q' k' hq' => constN hq') fun g₆ h₆ t₆ v k₆ C₆ hE => ?_)
  ·refine sliceTo (nameL C₅ ((hm₁ _ (by decide)).trans hstr) (wpAny_BinOp (nameL C₅ hi' (constI fun tx => PyProof.Rows.add_int (exI6 l tl (l.length - 1 + 1) _ h₅ _ (anI5 rfl rfl rfl (by omega) (fun h' t' tt k' => ?_)))))))
   have : l.take (l.length - 1 + 1) = l := List.take_of_length_le (by omega)
   rw [this]
   exact hq' h' t' tt k'
  ·(refine Exists.elim (C₅.kept k') fun g' zr11 => anE3 zr11 fun C' _ _ => ?_; clear zr11)
   exact nameL C' hq hq'
  refine wpAny_execs_nil (hQb _ _ (H g₆ h₆ t₆ m₅ _ _ (k₅.trans k₆) C₆ ?_ (by simp [hvl]) (by rw [hrun]; exact .int) hq hm₁))
  rw [htr]
  exact (hR.keeps k₆).snoc hE
end
end
section
open PySem PySem.W PyProof.Rows
section
variable {w : World} {A : Around} {E : Value → Shared → Prop} {R : Result → Shared → Prop} {K : Frag} {mg mb : Str → Option Value} {gs : Array GenState} {dr : Drawn} {os : OsState}
 {V : Addr → Prop} {g₀ h₀ g h : Heap} {t : Tok} {L S : Addr} {m : Str → Option Value} {fo ow : List Ent} {d dx T Df F U : Addr} {D : Dfa}
theorem call_edge (kf : KF8 K) {xp apos a1 a2 a3 kp pos : Pos} {dx : Addr} {es : List DictEntry} {n : Nat} {v1 v2 v3 : Value} {Q : Value → Shared → Prop}
  (c : Cur V g₀ h₀ L g h m ow) (X : K.In g) (hv : m "self" = some (.ref d)) (I : Inst g d 245 dx es n) (hl : getL "find_next_edge" es = some none) (h1 : m "state" = some v1) (h2 : m "label" = some v2) (h3 : m "asbytes" = some v3)
  (H : codeAny (model P w) A (.call (.ref 220) ⟨[.ref d, v1, v2], [("asbytes", v3)]⟩) (back Q E) ⟨h, gs, dr, t, os⟩)
  (he : eval (.Call (.Attribute (.Name "self" xp) "find_next_edge" apos) [.Name "state" a1, .Name "label" a2] [⟨some "asbytes", .Name "asbytes" a3, kp⟩] pos) (eNvs L) = (do
   let ov ← eval (.Name "self" xp) (eNvs L)
   standAt apos.atName
   let (f, first) ← holding [ov] (getMethod ov "find_next_edge" (do return (← importBound (.Name "self" xp) (eNvs L)).getD true))
   callWith pos f first (backTo pos (starEach [.Name "state" a1, .Name "label" a2] (eNvs L))) (backToKw pos (keywordEach [⟨some "asbytes", .Name "asbytes" a3, kp⟩] (eNvs L)))) := by with_unfolding_all rfl) :
  wpAny (model P w) A (eval (.Call (.Attribute (.Name "self" xp) "find_next_edge" apos) [.Name "state" a1, .Name "label" a2] [⟨some "asbytes", .Name "asbytes" a3, kp⟩] pos) (eNvs L)) Q E ⟨h, gs, dr, t, os⟩ := by
 have M := kf.mEdge
 refine methodCall_KW (nameL c hv ?_) he
 refine method_fn (s := ⟨h, gs, dr, t, os⟩) (X.keeps c.X.gh) (I.keeps c.X.gh).instAt (plainGet_of M.pg).1 (plainGet_of M.pg).2 M.fi (beq_iff_eq.mp M.isf)
  (by show (lookIn "find_next_edge" (dictOf es n)).map _ = _; rw [lookIn_dict, hl]; rfl) ?_
 refine callWith_KW (h₀ := g) X M.kp (by rfl) ?_
 refine wpAny_items_cons (nameL c h1 (wpAny_items_cons (nameL c h2 (wpAny_items_nil ?_))))
 refine kwAll_cons (nameL c h3 (kwAll_nil ⟨X.keeps c.X.gh, wpAny_call H⟩))
end
end
section
open PySem PySem.W PyProof.Rows
theorem Dfa.Seeks.inv0 {D : Dfa} {n : Nat} {st : List Ent3} {r : Option (List Nat)} (h : D.Seeks n st r) :
  (st = [] ∧ r = none) ∨ ∃ k p q lo st', n = k + 1 ∧ st = (p, q, lo) :: st' ∧ (∀ c, lo = some c → c ≤ 100000) ∧ ((D.edge q (lo.elim 0 (· + 1)) = none ∧ D.Seeks k st' r) ∨
   ∃ c i, p.length ≤ 500 ∧ D.edge q (lo.elim 0 (· + 1)) = some c ∧ D.next q c = some i ∧ ((D.fin (some i) = true ∧ r = some (p ++ [c])) ∨ (D.fin (some i) = false ∧ D.Seeks k ((p ++ [c], i, none) :: st') r))) := by
 cases h with
 | nil => exact .inl ⟨rfl, rfl⟩
 | miss a b c => exact .inr (exI5 _ _ _ _ _ (anI4 rfl rfl a (.inl ⟨b, c⟩)))
 | hit a b c d e => exact .inr (exI5 _ _ _ _ _ (anI4 rfl rfl a (.inr (exI2 _ _ (anI4 b c d (.inl ⟨e, rfl⟩))))))
 | push a b c d e f => exact .inr (exI5 _ _ _ _ _ (anI4 rfl rfl a (.inr (exI2 _ _ (anI4 b c d (.inr ⟨e, f⟩))))))
theorem Dfa.Seeks.none_of {D : Dfa} {n : Nat} {r : Option (List Nat)} (h : D.Seeks n [] r) : r = none := by
 rcases h.inv0 with h | zc
 ·exact h.2
 ·(refine exE5 zc fun _ _ _ _ _ zr1 => anE3 zr1 fun _ e _ => ?_; clear zc zr1)
  exact absurd e.symm (List.cons_ne_nil _ _)
theorem Dfa.Seeks.inv {D : Dfa} {n : Nat} {p : List Nat} {q : Int} {lo : Option Nat} {st : List Ent3} {r : Option (List Nat)} (h : D.Seeks n ((p, q, lo) :: st) r) :
  ∃ k, n = k + 1 ∧ (∀ c, lo = some c → c ≤ 100000) ∧ ((D.edge q (lo.elim 0 (· + 1)) = none ∧ D.Seeks k st r) ∨
   ∃ c i, p.length ≤ 500 ∧ D.edge q (lo.elim 0 (· + 1)) = some c ∧ D.next q c = some i ∧ ((D.fin (some i) = true ∧ r = some (p ++ [c])) ∨ (D.fin (some i) = false ∧ D.Seeks k ((p ++ [c], i, none) :: st) r))) := by
 rcases h.inv0 with h | h
 ·exact absurd h.1 (List.cons_ne_nil _ _)
 ·refine exE5 h fun k p' q' lo' st' z => ⟨k, z.1, ?_⟩
  injection z.2.1 with e1 e2
  injection e1 with e1 e3
  injection e3 with e3 e4
  rw [e1, e2, e3, e4]; exact z.2.2
section
variable {w : World} {A : Around} {E : Value → Shared → Prop} {R : Result → Shared → Prop} {K : Frag} {mg mb : Str → Option Value} {gs : Array GenState} {dr : Drawn} {os : OsState}
 {V : Addr → Prop} {g₀ h₀ g h : Heap} {t : Tok} {L S : Addr} {m : Str → Option Value} {fo ow : List Ent} {d dx T Df F U : Addr} {D : Dfa} {outer : List Env} {kvs : List (Int × Value)} {vs : List Value}
theorem iaddCh {x : List Nat} {c : Nat} {t1 t2 : Tok} {Q : Value → Shared → Prop} (hz : x.length ≤ 1000) (H : ∀ t' tt, Q (.str (st (x ++ [c])) tt) ⟨h, gs, dr, t', os⟩) :
  wpAny (model P w) A (inplaceOp .Add (.str (st x) t1) (.str (ch c) t2)) Q E ⟨h, gs, dr, t, os⟩ := by
 refine PySem.P.iadd_str (s := ⟨h, gs, dr, t, os⟩) ?_
 have hl : (st x).length = x.length := by simp [st, Str.length]
 have hc : (ch c).length = 1 := rfl
 rw [hl, hc]
 by_cases e : x = []
 ·subst e
  exact H _ _
 ·rw [if_neg (by simpa using e), if_neg (by decide)]
  have e2 : st x ++ ch c = st (x ++ [c]) := by
   show (⟨_⟩ : Str) = ⟨_⟩
   congr 1
   apply Array.toList_inj.mp
   simp [st, ch]
  rw [e2]
  exact ⟨by simp [st, Str.length, sizeLine_eq]; lia, H _ _⟩
theorem nvs_while (kf : KF9 K) (B : Base w K mg mb g) (hroom : A.depth + 2 < recursionLimit) (hh : A.handled = none) (hfr : A.frames = some outer) (FO : FrIn outer fo) (I : DfaAt w g d dx T Df F U D) (up : D.Up) (hsU : (U == sysModules) = false)
  {stk : List Ent3} {n : Nat} {r : Option (List Nat)} (C : Cur V g₀ h₀ L g h m (StkE S vs :: (fo ++ [OutD w U kvs]))) (OK : OutOk g D kvs) (hR : RowIs g vs stk.reverse) (hs : D.Seeks n stk r) (hkn : kvs.length + n ≤ 1000) (hvn : vs.length ≤ 1000)
  (hself : m "self" = some (.ref d)) (hS : m "stack" = some (.ref S)) (hb : m "asbytes" = some (.bool false)) {Q : Flow → Shared → Prop}
  (H1 : r = none → ∀ g' h' t' m' kvs' vs', Keep g g' → Cur V g₀ h₀ L g' h' m' (StkE S vs' :: (fo ++ [OutD w U kvs'])) → OutOk g' D kvs' → kvs'.length ≤ 1000 → Q .next ⟨h', gs, dr, t', os⟩)
  (H2 : ∀ l, r = some l → ∀ g' h' t' tt m' kvs' vs', Keep g g' → Cur V g₀ h₀ L g' h' m' (StkE S vs' :: (fo ++ [OutD w U kvs'])) → OutOk g' D kvs' → kvs'.length ≤ 1000 → Q (.ret (.str (st l) tt)) ⟨h', gs, dr, t', os⟩) :
  wpAny (model P w) (A.deeper (eNvs L)) (exec (nvsSt 5) (eNvs L)) Q E ⟨h, gs, dr, t, os⟩ := by
 refine wpAny_noRaise (wpAny_While (codeAny_whileLoop (fun n s => ∃ g₁ h₁ m₁ t₁ vs kvs stk, s = ⟨h₁, gs, dr, t₁, os⟩ ∧ Keep g g₁ ∧ Cur V g₀ h₀ L g₁ h₁ m₁ (StkE S vs :: (fo ++ [OutD w U kvs])) ∧ OutOk g₁ D kvs ∧ RowIs g₁ vs stk.reverse ∧ D.Seeks n stk r ∧ kvs.length + n ≤ 1000 ∧ vs.length ≤ 1000 ∧
   m₁ "self" = some (.ref d) ∧ m₁ "stack" = some (.ref S) ∧ m₁ "asbytes" = some (.bool false)) ?_ n (exI7 g h m t vs kvs stk (anI11 rfl (Keep.refl _) C OK hR hs hkn hvn hself hS hb))))
 intro n s hI
 refine opaqueQ fun Qt Et hQt _ => ?_
 (refine exE7 hI fun g₁ h₁ m₁ t₁ vs kvs stk zr2 => anE11 zr2 fun ze1 k₁ C₁ OK₁ hR₁ hs₁ hkn₁ hvn₁ hself₁ hS₁ hb₁ => ?_; clear hI zr2; subst ze1)
 have hrow : h₁.PlainList S vs.toArray := C₁.get (StkE S vs) (by simp)
 refine isTrue_plain (nameL C₁ hS₁ (wpAny_truthy_list (s := ⟨h₁, gs, dr, t₁, os⟩) hrow.isList (by simp; lia) ?_))
 cases stk with
 | nil =>
  have e : vs = [] := by have := hR₁.length; simpa using this
  subst e
  refine hQt _ _ ?_
  refine wpAny_execs_nil ?_
  exact H1 hs₁.none_of g₁ h₁ _ m₁ kvs [] k₁ C₁ OK₁ (by omega)
 | cons x rest =>
  obtain ⟨p, q, lo⟩ := x
  (refine Exists.elim hs₁.inv fun k zr4 => anE3 zr4 fun ze3 hlo hcase => ?_; clear zr4)
  rw [List.reverse_cons] at hR₁
  (refine exE2 hR₁.last fun vs' v zr6 => anE3 zr6 fun ze5 hR' hE => ?_; clear zr6; subst ze5)
  have e : (!(vs' ++ [v]).toArray.isEmpty) = true := by simp
  rw [e]
  have hvl : vs'.length + 1 ≤ 1000 := by simpa using hvn₁
  refine hQt _ _ ?_
  rw [if_pos rfl]
  refine opaqueQ fun Qb Eb hQb _ => ?_
  refine wpAny_execs_cons (stack_pop (A := A.deeper (eNvs L)) (l := []) (r := fo ++ [OutD w U kvs]) hh C₁ hS₁ (by lia) hE fun g₂ h₂ t₂ tp tq lv k₂ C₂ hlv => ?_)
  have B₂ := (B.keeps k₁).keeps k₂
  have I₂ := (I.keeps k₁).keeps k₂
  refine exE2 I₂.inst fun _ _ I₀ => ?_
  have C₂' : Cur V g₀ h₀ L g₂ h₂ _ ([StkE S vs'] ++ (fo ++ [OutD w U kvs])) := C₂
  refine wpAny_execs_cons (assignL (call_edge kf.toKF8 C₂' B₂.X (oth (oth (oth hself₁))) I₀ (by rfl) (oth sam) sam (oth (oth (oth hb₁))) ?_))
  refine edge_spec (A := A.deeper (eNvs L)) (outer := eNvs L :: outer) (fo := FrE L _ :: fo) (kvs := kvs) kf.toKF8 C₂.X.gh B₂ (by show A.depth + 1 + 1 < _; lia) hh (Around.frames_deeper hfr) (fun env me => ?_) I₂ up hsU C₂'.ownL (OK₁.keeps k₂) (by lia) hlv hlo fun g₃ h₃ t₃ ve kvs' x₃ O₃ OK₃ hl₃ hve => ?_
  ·rcases List.mem_cons.mp me with rfl | me
   ·exact ⟨(by show (fnOfSt (clsSt 5 7)).scope.kind ≠ .module; decide), (exI2 L _ ⟨rfl, mem0⟩)⟩
   ·(refine anE2 (FO env me) fun a1 zr7 => exE2 zr7 fun L' m' zr8 => anE2 zr8 fun a2 a3 => ?_; clear zr8 zr7)
    exact ⟨a1, (exI2 L' m' ⟨a2, (.tail _ a3)⟩)⟩
  have C₃ : Cur V g₀ h₀ L g₃ h₃ _ ([StkE S vs'] ++ (fo ++ [OutD w U kvs'])) := C₂'.callL x₃ (fun _ v => v) O₃ fun e me => .inl (by
   rcases List.mem_cons.mp me with rfl | me
   ·exact ⟨_, mem0, rfl⟩
   ·rcases List.mem_append.mp me with me | me
    ·exact ⟨e, List.mem_cons_of_mem _ (memL me), rfl⟩
    ·rw [List.mem_singleton.mp me]
     exact ⟨OutD w U kvs, List.mem_cons_of_mem _ (memR (by simp)), rfl⟩)
  have B₃ := B₂.keeps x₃.gg
  have I₃ := I₂.keeps x₃.gg
  refine storeL C₃ fun h₄ t₄ C₄ _ => ?_
  refine wpAny_execs_cons (wpAny_If (isTrue_plain (nameL C₄ sam ?_)))
  rcases hcase with ⟨he, hsk⟩ | zc
  ·rw [he] at hve
   cases hve
   refine truthy_none (wpAny_execs_nil (wpAny_execs_nil (hQb _ _ ⟨k, by lia, g₃, h₄, _, t₄, vs', kvs', rest, rfl, (k₁.trans k₂).trans x₃.gg, C₄, OK₃, (hR'.keeps k₂).keeps x₃.gg, hsk, by lia, by lia, oth (oth (oth (oth hself₁))), oth (oth (oth (oth hS₁))), oth (oth (oth (oth hb₁)))⟩)))
  ·(refine exE2 zc fun c i zr2 => anE4 zr2 fun hpl he hni hfin => ?_; clear zc zr2)
   rw [he] at hve
   cases hve with
   | @some c tc =>
   refine truthyStr (x := [c]) (by simp) fun t₅ => ?_
   rw [decide_eq_true (by simp : [c] ≠ [])]
   refine wpAny_execs_cons (wpAny_AugAssign_Name (wpAny_loadName_local (by rfl) (by rfl) C₄.F.ns (oth (oth (oth sam))) (nameL C₄ sam (iaddCh (by lia) fun t₆ tp' => storeL C₄ fun h₇ t₇ C₇ _ => ?_))))
   refine exE2 I₃.inst fun _ _ I₀₃ => ?_
   refine wpAny_execs_cons (assignL (meth2_ C₇ B₃.X (oth (oth (oth (oth (oth hself₁))))) I₀₃ kf.mNext (by rfl) (nameL C₇ (oth (oth (oth sam))) (nameL C₇ (oth sam) ⟨B₃.X.keeps C₇.X.gh, ?_⟩))))
   refine next_state_spec kf.toKF C₇.X.gh B₃ (by show A.depth + 1 < _; lia) I₃ fun g₈ h₈ t₈ vn x₈ hn => ?_
   rw [hni] at hn
   cases hn with
   | @int i ti =>
   refine storeL (C₇.ro x₈) fun h₉ t₉ C₉ _ => ?_
   have B₈ := B₃.keeps x₈.gg
   have I₈ := I₃.keeps x₈.gg
   refine exE2 I₈.inst fun _ _ I₀₈ => ?_
   refine wpAny_execs_cons (wpAny_If (isTrue_plain (meth1_ C₉ B₈.X (oth (oth (oth (oth (oth (oth hself₁)))))) I₀₈ kf.mIsFinal (by rfl) (nameL C₉ sam ⟨B₈.X.keeps C₉.X.gh, is_final_spec kf.toKF C₉.X.gh B₈ (by show A.depth + 1 < _; lia) I₈ .int fun g₁₀ h₁₀ t₁₀ x₁₀ => ?_⟩))))
   have C₁₀ := C₉.ro x₁₀
   have kk := ((((k₁.trans k₂).trans x₃.gg).trans x₈.gg).trans x₁₀.gg)
   refine wpAny_truthy_bool ?_
   rcases hfin with ⟨hf, hr1⟩ | ⟨hf, hsk⟩
   ·rw [hf]
    refine wpAny_execs_cons (wpAny_Return_some (nameL C₁₀ (oth sam) ?_))
    exact hQb _ _ (H2 _ hr1 g₁₀ h₁₀ _ tp' _ kvs' vs' kk C₁₀ ((OK₃.keeps x₈.gg).keeps x₁₀.gg) (by omega))
   ·rw [hf]
    refine wpAny_execs_nil ?_
    refine wpAny_execs_cons (stack_push (A := A.deeper (eNvs L)) (tq := ti) (q := i) (p := p ++ [c]) (lo := none) (l := []) C₁₀ (oth (oth (oth (oth (oth (oth hS₁)))))) (by lia) LV.none (fun Q' hq' => nameL C₁₀ (oth sam) (hq' _ _ _ (Keep.refl _))) (fun h' t' Q' k' hq' => ?_) (fun h' t' Q' k' hq' => constN hq') fun g₁₁ h₁₁ t₁₁ v' k₁₁ C₁₁ hE₁₁ => ?_)
    ·(refine Exists.elim (C₁₀.kept k') fun g' zr9 => anE3 zr9 fun C' _ _ => ?_; clear zr9)
     exact nameL C' sam hq'
    ·refine wpAny_execs_nil (wpAny_execs_nil (hQb _ _ ⟨k, by lia, g₁₁, h₁₁, _, t₁₁, vs' ++ [v'], kvs', (p ++ [c], i, none) :: rest, rfl, kk.trans k₁₁, C₁₁, ((OK₃.keeps x₈.gg).keeps x₁₀.gg).keeps k₁₁, ?_, hsk, by lia, by simp; lia, oth (oth (oth (oth (oth (oth hself₁))))), oth (oth (oth (oth (oth (oth hS₁))))), oth (oth (oth (oth (oth (oth hb₁)))))⟩))
     rw [List.reverse_cons]
     exact ((((((hR'.keeps k₂).keeps x₃.gg).keeps x₈.gg).keeps x₁₀.gg).keeps k₁₁)).snoc hE₁₁
end
end
section
open PySem PySem.W PyProof.Rows
inductive TV : Option (List Nat) → Value → Prop
 | some {l : List Nat} {t : Tok} : TV (some l) (.str (st l) t)
 | none : TV none .none
section
variable {w : World} {A : Around} {E : Value → Shared → Prop} {R : Result → Shared → Prop} {K : Frag} {mg mb : Str → Option Value} {gs : Array GenState} {dr : Drawn} {os : OsState}
 {g h : Heap} {t : Tok} {fo : List Ent} {d dx T Df F U : Addr} {D : Dfa} {outer : List Env} {kvs : List (Int × Value)}
theorem nvs_spec (kf : KF9 K) (gh : Keep g h) (B : Base w K mg mb g) (hroom : A.depth + 2 < recursionLimit) (hh : A.handled = none) (hfr : A.frames = some outer) (FO : FrIn outer fo) (I : DfaAt w g d dx T Df F U D) (nz : D.NoZero) (up : D.Up) (hsU : (U == sysModules) = false)
  (O : Own g h (fo ++ [OutD w U kvs])) (OK : OutOk g D kvs) {l : List Nat} {tl : Tok} (hz : l.length ≤ 500) {n : Nat} {r : Option (List Nat)} (hw : if D.fin (D.run 0 l) then r = some l else D.Seeks n (D.trail 0 [] l).reverse r) (hkn : kvs.length + n ≤ 1000)
  (H : ∀ g' h' t' v kvs', Ext (adr (fo ++ [OutD w U kvs])) g h g' h' → Own g' h' (fo ++ [OutD w U kvs']) → OutOk g' D kvs' → TV r v → R (.ok (.ret v)) ⟨h', gs, dr, t', os⟩) :
  codeAny (model P w) A (.call (.ref 213) ⟨[.ref d, .str (st l) tl], []⟩) R ⟨h, gs, dr, t, os⟩ := by
 refine exE2 I.inst fun td nn I₀ => ?_
 refine enter (adr (fo ++ [OutD w U kvs])) (fo ++ [OutD w U kvs]) O (fun e me => ⟨e, me, rfl⟩) (binds := [("self", .ref d), ("string", .str (st l) tl), ("asbytes", .bool false)]) gh B.X B.lim kf.mNvs.fn (by lia) (fun pm => ?_) (by rfl) (fun h₁ L t₁ C _ => ?_) (by rfl) (by rfl) (by rfl) (by decide +kernel)
 ·(refine exE2 kf.dNvs fun o n zr1 => anE2 zr1 fun ho hd => ?_; clear zr1)
  exact .of_defaults rfl (gh _ _ (B.X _ _ ho)) hd (by with_unfolding_all rfl) (by with_unfolding_all rfl)
 refine wpAny_execs_cons (assignL (meth0_ C B.X (by rfl) I₀ kf.mStart (by rfl) (start_spec (A := A.deeper (eNvs L)) kf.toKF C.X.gh B (by show A.depth + 1 < _; lia) I fun g₂ h₂ t₂ tv x₂ => ?_)))
 refine storeL (C.ro x₂) fun h₃ t₃ C₃ _ => ?_
 refine wpAny_execs_cons (assignL (wpAny_List (wpAny_items_nil ⟨(by show 0 ≤ sizeLine; exact Nat.zero_le _), ?_⟩)))
 obtain ⟨C₄, _⟩ := C₃.alloc (o := { cls := .type "list", data := .seq #[] }) (Pr := fun h => h.PlainList h₃.objs.size ([] : List Value).toArray) rfl fun h' _ e => ⟨0, e⟩
 refine storeL C₄ fun h₅ t₅ C₅ _ => ?_
 refine wpAny_execs_cons (assignL (constI fun t₆ => storeL C₅ fun h₇ t₇ C₇ _ => ?_))
 have B₂ := B.keeps x₂.gg
 have I₂ := I.keeps x₂.gg
 generalize hS : h₃.objs.size = S at C₇
 have C₇' := C₇.perm (ow' := (fo ++ [OutD w U kvs]) ++ [StkE S []]) (List.perm_append_comm (l₁ := [StkE S []]))
 refine wpAny_execs_cons (nvs_for (A := A) kf B₂ (by lia) hh I₂ nz hz C₇' (oth (oth (oth (by rfl)))) (oth (oth (oth (by rfl)))) (oth sam) (oth (oth sam)) sam fun g₈ h₈ t₈ m₈ vs rv k₈ C₈ hR hvl hrv hst hm₈ => ?_)
 have B₈ := B₂.keeps k₈
 have I₈ := I₂.keeps k₈
 refine exE2 I₈.inst fun _ _ I₀₈ => ?_
 have hself : m₈ "self" = some (.ref d) := (hm₈ _ (by decide)).trans (oth (oth (oth (by rfl))))
 have hstr : m₈ "string" = some (.str (st l) tl) := (hm₈ _ (by decide)).trans (oth (oth (oth (by rfl))))
 have hasb : m₈ "asbytes" = some (.bool false) := (hm₈ _ (by decide)).trans (oth (oth (oth (by rfl))))
 have hstk : m₈ "stack" = some (.ref S) := (hm₈ _ (by decide)).trans (oth sam)
 refine wpAny_execs_cons (wpAny_If (isTrue_plain (meth1_ C₈ B₈.X hself I₀₈ kf.mIsFinal (by rfl) (nameL C₈ hst ⟨B₈.X.keeps C₈.X.gh, is_final_spec (A := A.deeper (eNvs L)) kf.toKF C₈.X.gh B₈ (by show A.depth + 1 < _; lia) I₈ hrv fun g₉ h₉ t₉ x₉ => ?_⟩))))
 have C₉ := C₈.ro x₉
 refine wpAny_truthy_bool ?_
 cases hf : D.fin (D.run 0 l) with
 | true =>
  rw [hf] at hw
  have hr : r = some l := hw
  subst hr
  refine wpAny_execs_cons (wpAny_Return_some (nameL C₉ hstr ?_))
  have C₁₀ := C₉.drop (ow' := fo ++ [OutD w U kvs]) (List.sublist_append_left _ _)
  exact H g₉ h₉ _ _ kvs C₁₀.X C₁₀.O (((OK.keeps x₂.gg).keeps k₈).keeps x₉.gg) .some
 | false =>
  rw [hf] at hw
  have hr : D.Seeks n (D.trail 0 [] l).reverse r := hw
  refine wpAny_execs_nil ?_
  have C₁₀ := C₉.perm (ow' := StkE S vs :: (fo ++ [OutD w U kvs])) (List.perm_append_comm (l₂ := [StkE S vs]))
  refine wpAny_execs_cons (nvs_while (A := A) (stk := (D.trail 0 [] l).reverse) kf (B₈.keeps x₉.gg) hroom hh hfr FO (I₈.keeps x₉.gg) up hsU C₁₀ (((OK.keeps x₂.gg).keeps k₈).keeps x₉.gg) (by rw [List.reverse_reverse]; exact hR.keeps x₉.gg) hr hkn (by lia) hself hstk hasb (fun e g₁₁ h₁₁ t₁₁ m₁₁ kvs' vs' k₁₁ C₁₁ OK₁₁ _ => ?_) fun l' e g₁₁ h₁₁ t₁₁ tt m₁₁ kvs' vs' k₁₁ C₁₁ OK₁₁ _ => ?_)
  ·subst e
   have C₁₂ := C₁₁.drop (List.sublist_cons_self _ _)
   exact wpAny_execs_cons (wpAny_Return_some (constN (H g₁₁ h₁₁ _ _ kvs' C₁₂.X C₁₂.O OK₁₁ .none)))
  ·subst e
   have C₁₂ := C₁₁.drop (List.sublist_cons_self _ _)
   exact H g₁₁ h₁₁ _ _ kvs' C₁₂.X C₁₂.O OK₁₁ .some
end
end
section
open PySem PySem.W PyProof.Rows
structure KF10 (K : Frag) : Prop extends KF9 K where
 mLabels : Meth K 245 "get_labels" "FSA.get_labels" 77 76 (clsSt 4 5) .none
section
variable {w : World} {A : Around} {E : Value → Shared → Prop} {R : Result → Shared → Prop} {K : Frag} {mg mb : Str → Option Value} {gs : Array GenState} {dr : Drawn} {os : OsState}
 {g h : Heap} {t : Tok} {d dx T Df F U : Addr} {D : Dfa} {q : Int} {tq : Tok}
theorem labels_spec (kf : KF10 K) (gh : Keep g h) (B : Base w K mg mb g) (hroom : A.depth < recursionLimit) (hh : A.handled = none) (I : DfaAt w g d dx T Df F U D) (up : D.Up)
  (H : ∀ g' h' t' a, Ext RO g h g' h' → LabsAt g' a (D.labs q) → R (.ok (.ret (.ref a))) ⟨h', gs, dr, t', os⟩) :
  codeAny (model P w) A (.call (.ref 77) ⟨[.ref d, .int q tq], []⟩) R ⟨h, gs, dr, t, os⟩ := by
 refine exE2 I.inst fun td n I₀ => ?_
 obtain ⟨kvT, hT, hA⟩ := I.tab
 refine enter RO [] .nil (fun _ m => absurd m List.not_mem_nil) (binds := [("self", .ref d), ("src", .int q tq)]) gh B.X B.lim kf.mLabels.fn hroom (fun pm => .of_eq (by with_unfolding_all rfl)) (by rfl) (fun h₁ L t₁ C _ => ?_) (by rfl) (by rfl) (by rfl) (by decide +kernel)
 have p1 := kf.pg "transitions" (by decide)
 refine wpAny_execs_cons (wpAny_Return_some (callT1 C.X.gh B (kf.bn "list" (by decide)) bt_list (by decide) (get2_ (knd := IK w) (attrN C (by rfl) (attr_own C.X.gh B.X I₀ p1.1 kf.hh p1.2 (by rfl) rfl fun t₂ =>
  (exI2 T _ (anI4 rfl I.sys.1 ((hT.keep C.X.gh).mapOf) (nameL C (by rfl) (wpAny_List (wpAny_items_nil ⟨(by show 0 ≤ sizeLine; exact Nat.zero_le _), ?_⟩))))))))))
 have kp : Keep h₁ (h₁.push { cls := .type "list", data := .seq ([] : List Value).toArray }) := Keep.push _ _
 (refine Exists.elim (C.kept kp) fun g₂ zr1 => anE3 zr1 fun C₂ kg hg₂ => ?_; clear zr1)
 refine (exI3 _ _ q (anI4 rfl (intKind_is P w q tq) (((hT.keep kg).keep C₂.X.gh).mapOf) (fun t₃ => ?_)))
 have fin : ∀ h' t' a, Keep (h₁.push { cls := .type "list", data := .seq ([] : List Value).toArray }) h' → LabsAt h' a (D.labs q) → (h₁.push { cls := .type "list", data := .seq ([] : List Value).toArray }).get? a = none → R (.ok (.ret (.ref a))) ⟨h', gs, dr, t', os⟩ := fun h' t' a k hL hn => by
  (refine Exists.elim (C₂.kept k) fun g₃ zr2 => anE3 zr2 fun C₃ kg₃ hg₃ => ?_; clear zr2)
  obtain ⟨vs, e, q1, q2⟩ := hL
  exact H g₃ h' t' a C₃.X ⟨vs, e, hg₃ _ _ q1 hn, q2⟩
 rcases hA.at q with zc | ⟨h1, h2⟩
 ·(refine exE2 zc fun l a zr1 => anE4 zr1 fun h1 h2 h3 h4 => ?_; clear zc zr1)
  rw [h2]
  obtain ⟨ks, hd, hk⟩ := (h3.keeps kg).keeps C₂.X.gh
  obtain ⟨ep, hat⟩ := hd.dictAt
  have harcs : D.arcs q = l := by rw [Dfa.arcs, h1]; rfl
  have hlen : ks.length = l.length := hk.length
  have hl64 := (up q).2
  rw [harcs] at hl64
  refine kdl_call (s := ⟨_, gs, dr, t₃, os⟩) (kdl_dict (knd := SK w) (kvs := ks) (ep := ep) h4) hh hat (by rw [hlen, sizeLine_eq]; omega) fun h' tk acc' c' k hS hi => ?_
  refine fin h' tk _ k ⟨acc', c', hS, ?_⟩ (size_none _)
  rw [Dfa.labs, harcs]
  exact keys_strs ks l acc'.toList hk (by rw [Array.length_toList]; exact hi.1) fun j v e => hi.2 j v (by rw [← Array.getElem?_toList]; exact e)
 ·rw [h2]
  refine call_list_seq (s := ⟨_, gs, dr, t₃, os⟩) h₁.objs.size (.inl rfl) (Heap.get?_push_size _ rfl) rfl rfl (fun h' c' k hS => ?_)
  refine fin h' t₃ _ k ⟨#[], c', hS, ?_⟩ (size_none _)
  rw [Dfa.labs, Dfa.arcs, h1]
  exact .nil
end
end
section
open PySem PySem.W PyProof.Rows
theorem rangeSize_nat (n : Nat) : Builtin.Range.rangeSize 0 (n : Int) 1 = n := by
 unfold Builtin.Range.rangeSize
 simp only [show (1 : Int) > 0 by decide, if_true]
 by_cases e : (0 : Int) < n
 ·rw [if_pos e, Int.ediv_one]; lia
 ·rw [if_neg e]; lia
theorem fitsLong {i : Int} (h0 : 0 ≤ i) (h1 : i ≤ 100001) : Builtin.Range.rangeFitsLong i = true := by
 unfold Builtin.Range.rangeFitsLong
 rw [Bool.and_eq_true, decide_eq_true_iff, decide_eq_true_iff]
 lia
theorem range_small (n : Nat) (h : n ≤ 100000) : Builtin.Range.small 0 (n : Int) 1 = true := by
 unfold Builtin.Range.small
 rw [rangeSize_nat, if_pos (by decide), fitsLong (by lia) (by lia), fitsLong (by lia) (by lia), fitsLong (by lia) (by lia), fitsLong (by lia) (by lia)]
 simp
section
variable {w : World} {A : Around} {E : Value → Shared → Prop} {R : Result → Shared → Prop} {env : Env} {gs : Array GenState} {dr : Drawn} {os : OsState} {t : Tok}
 {V : Addr → Prop} {g₀ h₀ g h : Heap} {m : Str → Option Value} {ow : List Ent} {target : Expr} {body orelse : List Stmt}
theorem forRange {n : Nat} {tn : Tok} (hn : n ≤ 100000) (hh : A.handled = none) (C : Cur V g₀ h₀ env.locals g h m ow)
  (H : ∀ I g' h' fe St t', Keep g g' → Cur V g₀ h₀ env.locals g' h' m (fe ++ ow) → FeedN w A env I n g' h₀ fe St (fun i v => ∃ t, v = .int (0 + (i : Nat) * 1) t) h' → codeAny (model P w) A (.forLoop target (.ref I) body orelse env) R ⟨h', gs, dr, t', os⟩)
  (hk : env.scope.kind = .function := by rfl) :
  wpAny (model P w) A (call (.type "range") [.int n tn]) (fun v s => wpAny (model P w) A (pyIter v) (fun it s₂ => codeAny (model P w) A (.forLoop target it body orelse env) R s₂) E s) E ⟨h, gs, dr, t, os⟩ := by
 refine call_range_1 (s := ⟨h, gs, dr, t, os⟩) ?_
 (refine Exists.elim (C.kept (Keep.push h { cls := .type "range", data := .fields #[.int 0 t, .int n tn, .int 1 (t + 1)] })) fun g₁ zr1 => anE3 zr1 fun C₁ kg _ => ?_; clear zr1)
 have hr : IsRange (h.push { cls := .type "range", data := .fields #[.int 0 t, .int n tn, .int 1 (t + 1)] }) h.objs.size 0 n 1 t tn (t + 1) := Heap.get?_push_size _ rfl
 refine wpAny_pyIter_range (s := ⟨_, gs, dr, _, os⟩) hr (range_small n hn) ?_
 rw [rangeSize_nat]
 obtain ⟨C₂, nw⟩ := C₁.alloc (o := { cls := .type "range_iterator", data := .fields #[rawInt 0, rawInt n, rawInt 1] }) (Pr := fun _ => True) rfl fun _ _ _ => trivial
 refine H _ g₁ _ [(_, fun _ => True)] _ _ kg C₂ ⟨fun y py hl => Feed.name (Walks.range hh _ 0 1 n) (fun b mb => .inl mb) (fun i h st b mb => ?_) hk hl, fun b mb => ?_, ⟨?_, C₂.X.gh⟩⟩
 ·rw [show b = _ from List.mem_singleton.mp mb]
  have st' : IsRangeIter h _ _ _ _ := st
  rw [st']; exact Option.some_ne_none _
 ·rw [show b = _ from List.mem_singleton.mp mb]; exact nw
 ·have := Heap.get?_push_size (h.push { cls := .type "range", data := .fields #[.int 0 t, .int n tn, .int 1 (t + 1)] }) (o := { cls := .type "range_iterator", data := .fields #[rawInt 0, rawInt n, rawInt 1] }) rfl
  simpa using this
end
end
section
noncomputable def abcd (n : Int) : Nat := if n.fmod 3 = 0 then 97 else if n.fmod 3 = 1 then 98 else 99
noncomputable def wordStep : Nat → Int → List Nat
 | 0, _ => []
 | k + 1, n => abcd n :: wordStep k (n.fdiv 3)
noncomputable def lawWord (n : Int) (most : Nat) : List Nat := wordStep (n.fmod (most + 1)).toNat (n.fdiv (most + 1))
theorem wordStep_len (k : Nat) : ∀ n, (wordStep k n).length = k := by
 induction k with
 | zero => intro n; rfl
 | succ k ih => intro n; simp [wordStep, ih]
theorem lawWord_len (n : Int) (most : Nat) : (lawWord n most).length ≤ most := by
 unfold lawWord
 rw [wordStep_len]
 have h1 : 0 ≤ n.fmod (most + 1) := Int.fmod_nonneg_of_pos _ (by omega)
 have h2 : n.fmod (most + 1) < most + 1 := Int.fmod_lt_of_pos _ (by omega)
 omega
noncomputable def after : Nat → Int → Int
 | 0, n => n
 | i + 1, n => after i (n.fdiv 3)
theorem after_succ (i : Nat) : ∀ n, after (i + 1) n = (after i n).fdiv 3 := by
 induction i with
 | zero => intro n; rfl
 | succ i ih => intro n; exact ih (n.fdiv 3)
theorem wordStep_take (k : Nat) : ∀ (i : Nat) (n : Int), i < k → (wordStep k n).take (i + 1) = (wordStep k n).take i ++ [abcd (after i n)] := by
 induction k with
 | zero => intro i n h; omega
 | succ k ih =>
  intro i n h
  cases i with
  | zero => simp [wordStep, after]
  | succ i => simp only [wordStep, List.take_succ_cons, List.cons_append, after]; rw [ih i _ (by omega)]
end
section
open PySem PySem.W PyProof.Rows
structure KF11 (K : Frag) : Prop extends KF10 K where
 fWord : HasFn K 296 "_law_word" "_law_word" (fnOfSt (topSt 10)) .none (.ref 295)
 kWord : keepIn K (.ref 296) = true
 gWord : nsIn K mainGlobals "_law_word" = some (some (.ref 296))
noncomputable abbrev eWord (L : Addr) : Env := envOf "_law_word" (fnOfSt (topSt 10)).scope L 296 (.ref 295)
section
variable {w : World} {A : Around} {E : Value → Shared → Prop} {R : Result → Shared → Prop} {K : Frag} {mg mb : Str → Option Value} {gs : Array GenState} {dr : Drawn} {os : OsState}
 {g h : Heap} {t : Tok} {outer : List Env}
theorem subscriptB {env : Env} {value e₁ e₂ : Expr} {op : Operator} {p pos : Pos} {Q : Value → Shared → Prop} {s : Shared}
  (H : wpAny (model P w) A (eval value env) (fun o s₁ => wpAny (model P w) A (eval (.BinOp e₁ op e₂ p) env) (fun i s₂ => SubscriptOn (model P w) A o i Q E s₂) E s₁) E s) :
  wpAny (model P w) A (eval (.Subscript value (.BinOp e₁ op e₂ p) pos) env) Q E s := by
 rw [eval_Subscript]
 refine wpAny_bind (wpAny_mono H (fun o s₁ h₁ => wpAny_bind (wpAny_holding (wpAny_mono h₁ (fun i s₂ h₂ => wpAny_bind (wpAny_standAt ?_)) fun _ _ x => x))) fun _ _ x => x)
 obtain ⟨T, id, hl, hT, hg⟩ := h₂
 refine wpAny_bind ?_
 rw [getitemInPython_of_ne hT.not_modules]
 refine wpAny_bind (wpAny_specialOf hT hl ?_)
 have fin : wpAny (model P w) A (operate [o, i] (getItem o i)) (fun r s₃ => wpAny (model P w) A (letTemporaryGo value o r >>= fun _ => pure r) Q E s₃) E s₂ :=
  wpAny_operating (wpAny_mono hg (fun r s₃ h₃ => wpAny_bind (wpAny_letTemporaryGo (wpAny_pure h₃))) fun _ _ x => x)
 first
  | exact wpAny_pure (wpAny_bind fin)
  | exact wpAny_bind (wpAny_pure (wpAny_bind fin))
  | exact wpAny_bind fin
theorem word_spec (kf : KF11 K) (gh : Keep g h) (B : Base w K mg mb g) (sr : g.NoSeer) (hroom : A.depth + 1 + Builtin.pylongFrames < recursionLimit) (hh : A.handled = none) (hfr : A.frames = some outer) {n : Int} {tn tm : Tok}
  (H : ∀ g' h' t' tt, Ext RO g h g' h' → R (.ok (.ret (.str (st (lawWord n 4)) tt))) ⟨h', gs, dr, t', os⟩) :
  codeAny (model P w) A (.call (.ref 296) ⟨[.int n tn, .int 4 tm], []⟩) R ⟨h, gs, dr, t, os⟩ := by
 refine enter RO [] .nil (fun _ m => absurd m List.not_mem_nil) (binds := [("number", .int n tn), ("most", .int 4 tm)]) gh B.X B.lim kf.fWord (by omega) (fun pm => .of_eq (by with_unfolding_all rfl)) (by rfl) (fun h₁ L t₁ C _ => ?_) (by rfl) (by rfl) (by rfl) (by decide +kernel)
 have room : ∀ (s : Shared), Keep g s.heap → PylongRoom (model P w) (A.deeper (eWord L)) s := fun s k =>
  PylongRoom.of (B.lim.keeps k) (by show A.depth + 1 + _ < _; omega) (SeerAt.of (sr.keeps k) rfl (Around.frames_deeper hfr) rfl rfl rfl rfl)
 refine wpAny_execs_cons (assignL (wpAny_BinOp (nameL C (by rfl) (wpAny_BinOp (nameL C (by rfl) (constI fun t₂ => PyProof.Rows.add_int (PyProof.Rows.mod_int (by decide) (storeL C fun h₃ t₃ C₃ _ => ?_))))))))
 refine wpAny_execs_cons (assignL (wpAny_BinOp (nameL C₃ (by rfl) (wpAny_BinOp (nameL C₃ (by rfl) (constI fun t₄ => PyProof.Rows.add_int (PyProof.Rows.floordiv_int (by decide) (storeL C₃ fun h₅ t₅ C₅ _ => ?_) (.inr (room _ C₃.X.gh)))))))))
 obtain ⟨k, hk⟩ : ∃ k : Nat, n.fmod (4 + 1) = k := ⟨(n.fmod (4 + 1)).toNat, (Int.toNat_of_nonneg (Int.fmod_nonneg_of_pos _ (by decide))).symm⟩
 have hk5 : k < 5 := by have := Int.fmod_lt_of_pos n (b := 4 + 1) (by decide); omega
 generalize hn' : n.fdiv (4 + 1) = n' at C₅
 have hw : lawWord n 4 = wordStep k n' := by
  unfold lawWord
  have e : ((4 : Nat) : Int) + 1 = 4 + 1 := rfl
  rw [e, hk, hn']; rfl
 rw [hk] at C₅
 refine wpAny_execs_cons (assignL (constS fun t₆ => storeL C₅ fun h₇ t₇ C₇ _ => ?_))
 refine wpAny_execs_cons (wpAny_For (callT1 C₇.X.gh B (kf.bn "range" (by decide)) bt_range (by decide) (nameL C₇ (oth (oth sam)) (forRange (A := A.deeper (eWord L)) (by omega) hh C₇ fun it g₈ h₈ fe St t₈ k₈ C₈ FP => ?_))))
 refine forLoop (FP.feed "place" _ (by rfl)) (fun i g' m ow => ow = [] ∧ ∃ t1 t2, m "made" = some (.str (st ((wordStep k n').take i)) t1) ∧ m "number" = some (.int (after i n') t2)) C₈ rfl FP.new FP.st ⟨rfl, (exI2 t₆ _ ⟨sam, (oth sam)⟩)⟩ (fun i g₉ h₉ m₁ m₉ ow fe₉ t₉ hi k₉ hj hp C₉ => ?_) (fun g₉ h₉ m₉ ow t₉ k₉ hj C₉ => ?_)
 ·refine opaqueQ fun Qb Eb hQb _ => ?_
  (refine anE2 hj fun ze1 zr2 => exE2 zr2 fun t1 t2 zr3 => anE2 zr3 fun hm hnm => ?_; clear hj zr3 zr2; subst ze1)
  obtain ⟨v, ⟨tv, rfl⟩, rfl⟩ := hp
  have wl := wordStep_len k n'
  refine wpAny_execs_cons (assignL (wpAny_BinOp (nameL C₉ (oth hm) (subscriptB (constS fun t₁₀ => wpAny_BinOp (nameL C₉ (oth hnm) (constI fun t₁₁ => PyProof.Rows.mod_int (by decide) ⟨"str", "str.__getitem__", slot_str_getitem.lookup, rfl, PyProof.Rows.getItem_str (x := "abc") (c := abcd (after i n')) ?_ ?_ ?_⟩)))))))
  ·have h1 : 0 ≤ (after i n').fmod 3 := Int.fmod_nonneg_of_pos _ (by decide)
   have h2 : (after i n').fmod 3 < 3 := Int.fmod_lt_of_pos _ (by decide)
   simp only [Bool.or_eq_false_iff, decide_eq_false_iff_not]
   omega
  ·have h1 : 0 ≤ (after i n').fmod 3 := Int.fmod_nonneg_of_pos _ (by decide)
   have h2 : (after i n').fmod 3 < 3 := Int.fmod_lt_of_pos _ (by decide)
   have h3 : (after i n').fmod 3 = 0 ∨ (after i n').fmod 3 = 1 ∨ (after i n').fmod 3 = 2 := by omega
   unfold abcd
   rcases h3 with e | e | e <;> rw [e] <;> decide +kernel
  ·have e2 : st ((wordStep k n').take i) ++ (⟨#[abcd (after i n')]⟩ : Str) = st ((wordStep k n').take (i + 1)) := by
    rw [wordStep_take k i n' hi]
    show (⟨_⟩ : Str) = ⟨_⟩
    congr 1
    apply Array.toList_inj.mp
    simp [st]
   refine PyProof.Rows.add_str (fun t₁₂ tk => storeL C₉ fun h₁₀ t₁₀ C₁₀ _ => ?_) ?_
   ·refine wpAny_execs_cons (assignL (wpAny_BinOp (nameL C₁₀ (oth (oth hnm)) (constI fun t₁₁ => PyProof.Rows.floordiv_int (by decide) (storeL C₁₀ fun h₁₁ t₁₁ C₁₁ _ => wpAny_execs_nil ?_) (.inr (room _ (C₁₀.X.gg.trans C₁₀.X.gh)))))))
    rw [e2] at C₁₁
    exact hQb _ _ ⟨g₉, h₁₁, _, [], t₁₁, rfl, Keep.refl _, C₁₁, rfl, _, _, oth sam, by rw [after_succ]; exact sam⟩
   ·have : (st ((wordStep k n').take i)).length = ((wordStep k n').take i).length := by simp [st, Str.length]
    rw [this, sizeLine_eq, List.length_take]
    show _ + 1 ≤ _
    omega
 ·refine opaqueQ fun Qf Ef hQf _ => ?_
  (refine anE2 hj fun ze4 zr5 => exE2 zr5 fun t1 t2 zr6 => anE2 zr6 fun hm hnm => ?_; clear hj zr6 zr5; subst ze4)
  rw [List.take_of_length_le (by rw [wordStep_len]; omega)] at hm
  refine wpAny_execs_nil (hQf _ _ ?_)
  refine (wpAny_execs_cons (wpAny_Return_some (nameL C₉ hm ?_)))
  rw [← hw]
  exact H g₉ h₉ _ _ C₉.X
end
end
section
open PySem PySem.W PyProof.Rows
noncomputable def Step (M : Model) (A : Around) (Φ : End → Shared → Prop) (c : Code) (t : Sem Fin) (fs : List Frame) (s : Shared) : Prop :=
 ∀ (Γ : PySem.Ctx) (p : Pos), Γ.code = c → Γ.Woken A → ∃ e s', Runs M Γ p t fs s e s' ∧ Φ e s'
section
variable {M : Model} {A : Around} {Φ : End → Shared → Prop} {c : Code} {fs : List Frame} {s : Shared}
theorem step_wrap {α : Type} {m : Sem α} {k : α → Sem Fin} {H : Value → Sem Fin} {gd : Bool → Bool} {lv : List Value → List Value}
  (h : wpAny M (A.over c fs) m (fun a s' => Step M A Φ c (k a) fs s') (fun _ _ => False) s) : Step M A Φ c (m.wrap k H gd lv) fs s := by
 intro Γ p hc hΓ
 subst hc
 exact runs_wrap_of_wp k H gd lv m (h (Γ.over fs) p (hΓ.over fs)) (fun a p' s' q => q Γ p' rfl hΓ) fun _ _ _ q => q.elim
theorem step_bind {α β : Type} {m : Sem α} {k : α → Sem β} {k' : β → Sem Fin} {H : Value → Sem Fin} {gd : Bool → Bool} {lv : List Value → List Value}
  (h : wpAny M (A.over c fs) m (fun a s' => Step M A Φ c ((k a).wrap k' H gd lv) fs s') (fun _ _ => False) s) : Step M A Φ c ((m >>= k).wrap k' H gd lv) fs s := by
 rw [Sem.bind_eq_wrap', Sem.wrap_wrap]
 exact step_wrap h
theorem step_at {p : Pos} {k : Unit → Sem Fin} (h : Step M A Φ c (k ()) fs s) : Step M A Φ c (.at p k) fs s :=
 step_wrap (m := standAt p) (k := k) (H := .raise) (gd := id) (lv := id) (wpAny_standAt h)
theorem step_point {l : List Value} {k : Unit → Sem Fin} (h : Step M A Φ c (k ()) fs s) : Step M A Φ c (.point l k) fs s :=
 step_wrap (m := point) (k := k) (H := .raise) (gd := id) (lv := fun _ => l) (wpAny_point h)
theorem step_call {c' : Code} {h : Option Value} {b : Bool} {l : List Value} {k : Result → Sem Fin} (hc : ∀ p, Step M A Φ c' (M.den c') (.ret k h b l c p [] :: fs) s) :
  Step M A Φ c (.call c' h b l k) fs s := by
 intro Γ p e hΓ
 subst e
 (refine exE2 (hc p (Γ.goto c') p rfl (hΓ.goto c')) fun x s' zr1 => anE2 zr1 fun r q => ?_; clear zr1)
 exact (exI2 x s' ⟨(runs_call_seg r), q⟩)
theorem step_back {k : Result → Sem Fin} {h : Option Value} {b : Bool} {l : List Value} {c' : Code} {p' : Pos} {kp : List Value} (r : Result) (hk : Step M A Φ c' (k r) fs s) :
  Step M A Φ c (leafOf r) (.ret k h b l c' p' kp :: fs) s := by
 intro Γ p e hΓ
 subst e
 (refine exE2 (hk (Γ.goto c') p' rfl (hΓ.goto c')) fun x s' zr2 => anE2 zr2 fun q z => ?_; clear zr2)
 exact (exI2 x s' ⟨(Runs.pop r q), z⟩)
theorem step_again {c' : Code} (hq : c'.quiet = true) (h : Step M A Φ c' (M.den c') fs s) : Step M A Φ c (.pure (.again c')) fs s := by
 intro Γ p e hΓ
 subst e
 (refine exE2 (h (Γ.goto c') p rfl (hΓ.goto c')) fun x s' zr3 => anE2 zr3 fun r q => ?_; clear zr3)
 exact (exI2 x s' ⟨(Runs.head (c₁ := c') (fun _ _ z => .again hq z) r), q⟩)
theorem step_end (r : Result) (h : Φ (.ret r) s) : Step M A Φ c (leafOf r) [] s := by
 intro Γ p e _
 subst e
 exact (exI2 (.ret r) s ⟨(Runs.leaf r), h⟩)
theorem step_yield {v : Value} {b : Bool} {l : List Value} {k : Resume → Sem Fin} (hfs : splitAtGen fs = none) (h : ∀ p, Φ (.susp v b l k c p fs) s) :
  Step M A Φ c (.yield v b l k) fs s := by
 intro Γ p e _
 subst e
 exact (exI2 _ s ⟨(Runs.yield' fs hfs), (h p)⟩)
variable {env : Env} {k : Flow → Sem Fin} {H : Value → Sem Fin} {gd : Bool → Bool} {lv : List Value → List Value}
theorem step_nil (h : Step M A Φ c (k .next) fs s) : Step M A Φ c ((execs [] env).wrap k H gd lv) fs s := h
theorem step_stmt {st : Stmt} {rest : List Stmt}
  (h : wpAny M (A.over c fs) (exec st env) (fun f s' => Step M A Φ c (match f with | .next => (execs rest env).wrap k H gd lv | f => k f) fs s') (fun _ _ => False) s) :
  Step M A Φ c ((execs (st :: rest) env).wrap k H gd lv) fs s := by
 rw [execs_cons, Sem.bind_eq_wrap', Sem.wrap_wrap]
 refine step_wrap (wpAny_mono h (fun f s' q => ?_) fun _ _ x => x)
 cases f <;> exact q
theorem step_first {st : Stmt} {rest : List Stmt}
  (h : Step M A Φ c ((exec st env).wrap (fun f => match f with | .next => (execs rest env).wrap k H gd lv | f => k f) H gd lv) fs s) :
  Step M A Φ c ((execs (st :: rest) env).wrap k H gd lv) fs s := by
 have e : (execs (st :: rest) env).wrap k H gd lv = (exec st env).wrap (fun f => match f with | .next => (execs rest env).wrap k H gd lv | f => k f) H gd lv := by
  rw [execs_cons, Sem.bind_eq_wrap', Sem.wrap_wrap]
  congr 1
  funext f
  cases f <;> rfl
 rw [e]; exact h
theorem step_If {test : Expr} {body orelse : List Stmt} {pos : Pos}
  (h : wpAny M (A.over c fs) (isTrue test env (eval test env)) (fun b s' => Step M A Φ c ((execs (if b then body else orelse) env).wrap k H gd lv) fs s') (fun _ _ => False) s) :
  Step M A Φ c ((exec (.If test body orelse pos) env).wrap k H gd lv) fs s := by
 rw [exec_If]
 refine step_bind (wpAny_standAt (step_bind (wpAny_mono h (fun b s' q => ?_) fun _ _ x => x)))
 cases b <;> exact q
theorem step_Yield {e : Expr} {ypos pos : Pos} (hfs : splitAtGen fs = none)
  (h : wpAny M (A.over c fs) (eval e env) (fun v s' => ∀ (k' : Resume → Sem Fin) p, (∀ x s'' A', (match x with | .ref _ => False | _ => True) → Step M A' Φ c (k .next) fs s'' → Step M A' Φ c (k' (.send x)) fs s'') →
   (∀ (Ψ : End → Shared → Prop) x s'' A', (match x with | .ref _ => False | _ => True) → Step M A' Ψ c (k .next) fs s'' → Step M A' Ψ c (k' (.send x)) fs s'') → Φ (.susp v (gd false) (lv []) k' c p fs) s') (fun _ _ => False) s)
  (hco : env.scope.isCoroutine = false := by rfl) (hi : interactive env = false := by rfl) :
  Step M A Φ c ((exec (.Expr (.Yield (some e) ypos) pos) env).wrap k H gd lv) fs s := by
 rw [exec_Expr env _ pos hi rfl]
 show Step M A Φ c (.at pos fun _ => ((eval e env >>= fun v => (standAt ypos >>= fun _ => yieldOut env v)) >>= fun x =>
  dropValue (.Yield (some e) ypos) pos x).wrap k H gd lv) fs s
 have hy : ∀ v, yieldOut env v = yieldValue v := fun v => by simp only [yieldOut, hco, Bool.false_eq_true, if_false]
 simp only [hy]
 refine step_at ?_
 rw [Sem.bind_eq_wrap', Sem.bind_eq_wrap', Sem.wrap_wrap, Sem.wrap_wrap]
 refine step_wrap (wpAny_mono h (fun v s' h' => ?_) fun _ _ x => x)
 refine step_at (step_yield hfs fun p => ?_)
 refine h' _ p ?_ ?_
 ·intro x s'' A' hx q
  cases x <;> first | exact q | exact hx.elim
 ·intro Ψ x s'' A' hx q
  cases x <;> first | exact q | exact hx.elim
theorem step_For {target iter : Expr} {body orelse : List Stmt} {pos : Pos}
  (h : wpAny M (A.over c fs) (eval iter env) (fun x s₁ => wpAny M (A.over c fs) (pyIter x) (fun it s₂ => ∀ k' l p, (k' (.ok .next) = k .next) → (∀ f, k' (.ok f) = k f) →
   Step M A Φ (.forLoop target it body orelse env) (M.den (.forLoop target it body orelse env)) (.ret k' none (gd false) l c p [] :: fs) s₂) (fun _ _ => False) s₁) (fun _ _ => False) s)
  (hs : ∀ x, foldedSetIterable iter env x = pure x := by intro _; rfl) :
  Step M A Φ c ((exec (.For target iter body orelse pos) env).wrap k H gd lv) fs s := by
 rw [exec_For]
 refine step_bind (wpAny_standAt (step_bind (wpAny_mono h (fun x s₁ h₁ => ?_) fun _ _ x => x)))
 rw [hs x]
 refine step_bind (wpAny_pure (step_bind (wpAny_standAt (step_bind (wpAny_holding (wpAny_mono h₁ (fun it s₂ h₂ => ?_) fun _ _ x => x))))))
 exact step_call fun p => h₂ _ _ p rfl fun _ => rfl
end
section
variable {w : World} {A : Around} {Φ : End → Shared → Prop} {fs : List Frame} {s : Shared} {env : Env}
theorem step_turn {target : Expr} {it : Value} {body orelse : List Stmt}
  (h : wpAny (model P w) (A.over (.forLoop target it body orelse env) fs) (pyNext it) (fun r s₁ => match r with
   | none => Step (model P w) A Φ (.block orelse env) ((model P w).den (.block orelse env)) fs s₁
   | some v => wpAny (model P w) (A.over (.forLoop target it body orelse env) fs) (letOwnedTupleGo target it v) (fun _ s₁' =>
     wpAny (model P w) (A.over (.forLoop target it body orelse env) fs) (assign target env v) (fun _ s₂ => ∀ H,
      Step (model P w) A Φ (.forLoop target it body orelse env) ((execs body env).wrap (fun f => match f with
       | .next | .cont => .pure (.again (.forLoop target it body orelse env))
       | .brk => .pure (.done .next)
       | .ret v => .pure (.done (.ret v))) H id id) fs s₂) (fun _ _ => False) s₁') (fun _ _ => False) s₁) (fun _ _ => False) s) :
  Step (model P w) A Φ (.forLoop target it body orelse env) ((model P w).den (.forLoop target it body orelse env)) fs s := by
 show Step _ A Φ _ ((forTurn target it body orelse env).onRaise (fun x => do noteFrame x env; theTreesLotGoes x)) fs s
 rw [Sem.onRaise_eq_wrap]
 simp only [forTurn]
 refine step_bind (wpAny_standAt (step_bind (wpAny_onRaise (wpAny_mono h (fun r s₁ h₁ => ?_) fun _ _ x => x.elim))))
 cases r with
 | none => exact step_again rfl h₁
 | some v =>
  refine step_bind (wpAny_mono h₁ (fun _ s₁' h₁' => step_bind (wpAny_mono h₁' (fun _ s₂ h₂ => ?_) fun _ _ x => x)) fun _ _ x => x)
  rw [Sem.bind_eq_wrap', Sem.wrap_wrap]
  rw [Sem.wrap_congr (execs body env) _ _ (K' := fun f => match f with
       | .next | .cont => .pure (.again (.forLoop target it body orelse env))
       | .brk => .pure (.done .next)
       | .ret v => .pure (.done (.ret v))) (fun f => by cases f <;> rfl) (fun _ => rfl)]
  exact h₂ _
theorem step_block0 (h : ∀ c, Step (model P w) A Φ c (leafOf (.ok .next)) fs s) : Step (model P w) A Φ (.block [] env) ((model P w).den (.block [] env)) fs s := h _
theorem step_func {body : List Stmt}
  (h : ∀ H, Step (model P w) A Φ (.func body env) ((execs body env).wrap (fun f => .pure (.done (.ret (match f with | .ret v => v | _ => .none)))) H id id) fs s) :
  Step (model P w) A Φ (.func body env) ((model P w).den (.func body env)) fs s := by
 show Step _ A Φ (.func body env) (.point [] fun _ => ((execs body env).onRaise (leaving env)) >>= _) fs s
 refine step_point ?_
 rw [Sem.onRaise_eq_wrap, Sem.bind_eq_wrap', Sem.wrap_wrap]
 rw [Sem.wrap_congr (execs body env) _ _ (K' := fun f => .pure (.done (.ret (match f with | .ret v => v | _ => .none)))) (fun f => by cases f <;> rfl) (fun _ => rfl)]
 exact h _
end
end
section
open PySem PySem.W PyProof.Rows
structure Chg (pv : Addr → Prop) (gv : Nat → Prop) (s₀ s : Shared) : Prop where
 dr : s.drawn = s₀.drawn
 os : s.os = s₀.os
 old : ∀ b o, ¬ pv b → s₀.heap.get? b = some o → s.heap.get? b = some o
 gsz : s₀.gens.size ≤ s.gens.size
 gold : ∀ k, ¬ gv k → k < s₀.gens.size → s.gens[k]? = s₀.gens[k]?
 br : AllBare s₀.gens → AllBare s.gens
theorem Chg.keep {pv gv} {s₀ s s' : Shared} (c : Chg pv gv s₀ s) (k : Keep s.heap s'.heap) (e1 : s'.gens = s.gens) (e2 : s'.drawn = s.drawn) (e3 : s'.os = s.os) : Chg pv gv s₀ s' :=
 ⟨e2.trans c.dr, e3.trans c.os, fun b o n e => k b o (c.old b o n e), by rw [e1]; exact c.gsz, by rw [e1]; exact c.gold, by rw [e1]; exact c.br⟩
structure Same (pv : Addr → Prop) (gv : Nat → Prop) (s s' : Shared) : Prop where
 old : ∀ b o, pv b → s.heap.get? b = some o → s'.heap.get? b = some o
 gsz : s.gens.size ≤ s'.gens.size
 gold : ∀ k, gv k → s'.gens[k]? = s.gens[k]?
theorem Same.refl {pv gv} (s : Shared) : Same pv gv s s := ⟨fun _ _ _ e => e, Nat.le_refl _, fun _ _ => rfl⟩
theorem Same.trans {pv gv} {s s' s'' : Shared} (x : Same pv gv s s') (y : Same pv gv s' s'') : Same pv gv s s'' :=
 ⟨fun b o p e => y.old b o p (x.old b o p e), Nat.le_trans x.gsz y.gsz, fun k p => (y.gold k p).trans (x.gold k p)⟩
structure Grown (g : Heap) (pv : Addr → Prop) (gv : Nat → Prop) (s₀ : Shared) (pv' : Addr → Prop) (gv' : Nat → Prop) (s' : Shared) : Prop where
 pn : ∀ b, pv' b → pv b ∨ s₀.heap.get? b = none
 pg : ∀ b, pv' b → g.get? b = none
 pl : ∀ b, pv' b → s'.heap.get? b ≠ none
 gn : ∀ k, gv' k → gv k ∨ s₀.gens.size ≤ k
 gl : ∀ k, gv' k → k < s'.gens.size
noncomputable def GEnd (w : World) (g : Heap) (gi : Nat) (dmax : Nat) : List (List Nat) → (Addr → Prop) → (Nat → Prop) → Shared → End → Shared → Prop
 | [], pv, gv, s₀, e, s' => match e with
  | .ret r => r = .ok (.ret .none) ∧ Chg pv gv s₀ s'
  | .susp .. => False
 | x :: rest, pv, gv, s₀, e, s' => match e with
  | .ret _ => False
  | .susp v b l k c p fs => (End.susp v b l k c p fs).quiet = true ∧ (∃ t, v = .str (st x) t) ∧ ∃ pv' gv', Grown g pv gv s₀ pv' gv' s' ∧ ¬ gv' gi ∧ Chg pv gv s₀ s' ∧
    ∀ s'' A, Same pv' gv' s' s'' → Keep g s''.heap → A.handled = none → A.depth ≤ dmax → Step (model P w) A (GEnd w g gi dmax rest pv' gv' s'') c (k (.send .none)) fs s''
noncomputable def GGo (w : World) (A : Around) (Φ : End → Shared → Prop) (st : GenState) (s : Shared) : Prop := match st with
 | .fresh c => Step (model P w) A Φ c ((model P w).den c) [] s
 | .suspended k _ c _ fs _ => Step (model P w) A Φ c (k (.send .none)) fs s
 | _ => False
structure GLive (w : World) (g : Heap) (dmax : Nat) (outs : List (List Nat)) (pv : Addr → Prop) (gv : Nat → Prop) (gi : Nat) (s : Shared) : Prop where
 at_ : ∃ st, s.gens[gi]? = some st ∧ ∀ s'' A, Same pv gv s s'' → Keep g s''.heap → A.handled = none → A.depth ≤ dmax → GGo w A (GEnd w g gi dmax outs pv gv s'') st s''
 nin : ¬ gv gi
 pg : ∀ b, pv b → g.get? b = none
 pl : ∀ b, pv b → s.heap.get? b ≠ none
 gl : ∀ k, gv k → k < s.gens.size
theorem GLive.same {w g dmax outs pv gv gi} {s s' : Shared} (L : GLive w g dmax outs pv gv gi s) (x : Same pv gv s s') (e : s'.gens[gi]? = s.gens[gi]?) : GLive w g dmax outs pv gv gi s' := by
 obtain ⟨⟨st, a, b⟩, n, pg, pl, gl⟩ := L
 refine ⟨⟨st, e.trans a, fun s'' A y => b s'' A (x.trans y)⟩, n, pg, fun b q => ?_, fun k q => Nat.lt_of_lt_of_le (gl k q) x.gsz⟩
 cases r : s.heap.get? b with
 | none => exact absurd r (pl b q)
 | some o => rw [x.old b o q r]; exact Option.some_ne_none _
section
variable {w : World} {A : Around} {E : Value → Shared → Prop} {s : Shared}
theorem resumeStep {α : Type} {Φ : End → Shared → Prop} {gi : Nat} {st : GenState} {l : List Value} {k : GenResult → Sem α} {Q : α → Shared → Prop} (hg : s.gens[gi]? = some st)
  (hgo : GGo w A Φ st (s.setGen gi .running)) (hq : ∀ e s₁, Φ e s₁ → e.quiet = true)
  (H : ∀ e s₁, Φ e s₁ → wpAny (model P w) A (k e.result) Q E (s₁.setGen gi e.genState)) : wpAny (model P w) A (.resume gi (.send .none) l k) Q E s := by
 intro Γ p hΓ
 rw [Sem.wp_resume]
 cases st with
 | fresh c =>
  (refine exE2 (hgo (Γ.wake c p) p rfl (hΓ.wake c p)) fun e s₁ zr1 => anE2 zr1 fun r q => ?_; clear zr1)
  exact (exI2 _ _ ⟨(by unfold Wakes; rw [hg]; exact ⟨e, s₁, r, hq e s₁ q, rfl, rfl⟩), (H e s₁ q Γ p hΓ)⟩)
 | suspended k' l' c p' fs cl =>
  (refine exE2 (hgo (Γ.wake c p) p' rfl (hΓ.wake c p)) fun e s₁ zr2 => anE2 zr2 fun r q => ?_; clear zr2)
  exact (exI2 _ _ ⟨(by unfold Wakes; rw [hg]; exact ⟨e, s₁, r, hq e s₁ q, rfl, rfl⟩), (H e s₁ q Γ p hΓ)⟩)
 | running => exact hgo.elim
 | finished => exact hgo.elim
theorem GEnd.quiet {g : Heap} {gi dmax : Nat} {outs : List (List Nat)} {pv gv} {s₀ : Shared} (e : End) (s₁ : Shared) (h : GEnd w g gi dmax outs pv gv s₀ e s₁) : e.quiet = true := by
 cases outs with
 | nil => cases e with
  | ret r => rfl
  | susp => exact h.elim
 | cons x rest => cases e with
  | ret r => rfl
  | susp => exact h.1
theorem setGen_at {s : Shared} {gi : Nat} {x st : GenState} (h : s.gens[gi]? = some st) : (s.setGen gi x).gens[gi]? = some x := by
 have : gi < s.gens.size := by
  rcases Nat.lt_or_ge gi s.gens.size with z | z
  ·exact z
  ·rw [Array.getElem?_eq_none z] at h; cases h
 simp [Shared.setGen, this]
theorem setGen_ne {s : Shared} {gi k : Nat} {x : GenState} (h : k ≠ gi) : (s.setGen gi x).gens[k]? = s.gens[k]? := by
 simp [Shared.setGen, Ne.symm h]
theorem setGen_size {s : Shared} {gi : Nat} {x : GenState} : (s.setGen gi x).gens.size = s.gens.size := by simp [Shared.setGen]
theorem setGen_bare {s : Shared} {gi : Nat} {x : GenState} (h : AllBare s.gens) (hx : x.bare = true) : AllBare (s.setGen gi x).gens := fun y hy => by
 obtain ⟨i, hi, rfl⟩ := Array.getElem_of_mem hy
 have e : (s.setGen gi x).gens[i]? = some (s.setGen gi x).gens[i] := Array.getElem?_eq_getElem hi
 by_cases z : i = gi
 ·subst z
  have hi' : i < s.gens.size := by rw [setGen_size] at hi; exact hi
  rw [setGen_at (Array.getElem?_eq_getElem hi')] at e
  rw [← Option.some.inj e]; exact hx
 ·rw [setGen_ne z] at e
  exact h _ (Array.mem_of_getElem? e)
theorem next_gen {g : Heap} {dmax gi : Nat} {a : Addr} {outs : List (List Nat)} {pv : Addr → Prop} {gv : Nat → Prop} {Q : Option Value → Shared → Prop} (hh : A.handled = none) (hl : s.heap.NoLimit) (hroom : A.depth < recursionLimit) (hd : A.depth ≤ dmax)
  (hg : s.heap.IsGen a gi) (L : GLive w g dmax outs pv gv gi s) (kg : Keep g s.heap)
  (H1 : outs = [] → ∀ s', Chg pv (fun k => gv k ∨ k = gi) s s' → Q none s')
  (H2 : ∀ x rest, outs = x :: rest → ∀ s' t pv' gv', Grown g pv gv s pv' gv' s' → Chg pv (fun k => gv k ∨ k = gi) s s' → GLive w g dmax rest pv' gv' gi s' → Q (some (.str (st x) t)) s') :
  wpAny (model P w) A (pyNext (.ref a)) Q E s := by
 obtain ⟨⟨sg, hst, hgo⟩, nin, pg, pl, gl⟩ := L
 have hr : (s.setGen gi .running).gens[gi]? = some .running := setGen_at hst
 have go := hgo (s.setGen gi .running) A.in1 ⟨fun _ _ _ e => e, by rw [setGen_size]; exact Nat.le_refl _, fun k q => setGen_ne fun z => nin (z ▸ q)⟩ kg hh hd
 have chg : ∀ s₁ (x : GenState), x.bare = true → Chg pv gv (s.setGen gi .running) s₁ → Chg pv (fun k => gv k ∨ k = gi) s (s₁.setGen gi x) := fun s₁ x hx c =>
  ⟨c.dr, c.os, c.old, by rw [setGen_size]; exact (by have := c.gsz; rwa [setGen_size] at this), fun k n hk => by
   rw [setGen_ne fun z => n (.inr z), c.gold k (fun z => n (.inl z)) (by rw [setGen_size]; exact hk), setGen_ne fun z => n (.inr z)], fun hb => setGen_bare (c.br (setGen_bare hb rfl)) hx⟩
 unfold pyNext
 refine wpAny_bind (wpAny_attempt (wpAny_callSpecial?_slot (name := Str.ofString "__next__") hg.typeIs slot_gen_next
  (wpAny_call_entry slot_gen_next hg.typeIs entry_gen_next ?_ (args_gen_next _))))
 show wpAny _ A.in1 (Builtin.Generator.genWake (.ref a) (.send .none)) _ _ s
 unfold Builtin.Generator.genWake
 refine wpAny_bind (wpAny_holding (wpAny_genNumber hg (wpAny_bind (wpAny_genState hst ?_))))
 refine opaqueQ fun Q1 E1 hQ1 hE1 => ?_
 have tail : ∀ kt : GenResult → Sem Fin, (∀ v, kt (.yielded v) = ret v) → (∃ (β : Type) (jp : β → Sem Fin), kt (.returned .none) = (newExc (.type "StopIteration") [] >>= fun e => raiseNew e >>= jp)) →
   wpAny (model P w) A.in1 (.resume gi (.send .none) [] kt) Q1 E1 s := by
  intro kt hk1 hk2
  obtain ⟨β, jp, hk2⟩ := hk2
  refine resumeStep hst go (fun e s₁ q => GEnd.quiet e s₁ q) fun e s₁ q => ?_
  cases outs with
  | nil =>
   cases e with
   | susp => exact q.elim
   | ret r =>
    obtain ⟨rfl, c⟩ := q
    show wpAny _ A.in1 (kt (.returned .none)) _ _ _
    rw [hk2]
    refine wpAny_bind ?_
    refine wpAny_bind (wpAny_newObj_type ?_ (by size_fits))
    refine wpAny_bind (m := firstArgMember _ _) (wpAny_of_eq (a := Value.none) (by first | rfl | (simp only [firstArgMember]; rfl)) ?_)
    refine wpAny_newObj_type ?_ (by size_fits)
    refine wpAny_bind (wpAny_bind (wpAny_handled ?_))
    rw [show A.in1.handled = none from hh]
    refine wpAny_throw (hE1 _ _ ?_)
    refine wpAny_bind (wpAny_isInstance (T := "StopIteration") (b := true) ⟨_, Heap.get?_push_size _ rfl, rfl⟩ isSubtype_stop ?_)
    refine wpAny_pure (H1 rfl _ ?_)
    exact (chg s₁ .finished rfl c).keep ((Keep.push _ _).trans (Keep.push _ _)) rfl rfl rfl
  | cons x rest =>
   cases e with
   | ret r => exact q.elim
   | susp v b l k c' p fs =>
    obtain ⟨hq, ⟨t, rfl⟩, pv', gv', G, ng, c, hgo'⟩ := q
    show wpAny _ A.in1 (kt (.yielded _)) _ _ _
    rw [hk1]
    refine wpAny_pure (hQ1 _ _ ⟨_, rfl, wpAny_pure (H2 x rest rfl _ t pv' gv' ⟨G.pn, G.pg, G.pl, fun k q => by have := G.gn k q; rwa [setGen_size] at this, fun k q => by rw [setGen_size]; exact G.gl k q⟩ (chg s₁ _ (End.bare_of_quiet hq) c) ⟨⟨(End.susp (Value.str (st x) t) b l k c' p fs).genState, ?_, fun s'' A' sm kg' h1 h2 => ?_⟩, ng, G.pg, G.pl, fun k q => by rw [setGen_size]; exact G.gl k q⟩)⟩)
    ·have e1 : (s.setGen gi .running).gens.size ≤ s₁.gens.size := c.gsz
     have e2 : gi < s.gens.size := by
      rcases Nat.lt_or_ge gi s.gens.size with z | z
      ·exact z
      ·rw [Array.getElem?_eq_none z] at hst; cases hst
     rw [setGen_size] at e1
     have : gi < s₁.gens.size := Nat.lt_of_lt_of_le e2 e1
     show (s₁.gens.setIfInBounds gi _)[gi]? = _
     rw [Array.getElem?_setIfInBounds_self, if_pos this]
    ·refine hgo' s'' A' ⟨sm.old, by have := sm.gsz; rwa [setGen_size] at this, fun kk q => ?_⟩ kg' h1 h2
     have hne : kk ≠ gi := fun z => ng (by rw [← z]; exact q)
     rw [sm.gold _ q, setGen_ne hne]
 cases sg with
 | running => exact go.elim
 | finished => exact go.elim
 | _ => exact wpAny_bind (wpAny_roomToWake hl hroom (tail _ (fun _ => rfl) ⟨_, _, rfl⟩))
end
end
section
noncomputable def Dfa.gen (D : Dfa) : Nat → Int → List Nat → List (List Nat)
 | 0, _, _ => []
 | n + 1, q, p => (if D.fin (some q) then [p] else []) ++ (D.labs q).flatMap fun c => match D.next q c with
  | some r => D.gen n r (p ++ [c])
  | none => []
inductive Dfa.Deep (D : Dfa) : Nat → Int → Prop
 | mk {n : Nat} {q : Int} : (∀ c r, D.next q c = some r → D.Deep n r) → D.Deep (n + 1) q
theorem Dfa.Deep.inv {D : Dfa} {n : Nat} {q : Int} (h : D.Deep n q) : ∃ k, n = k + 1 ∧ ∀ c r, D.next q c = some r → D.Deep k r := by
 cases h with
 | mk a => exact ⟨_, rfl, a⟩
theorem lookup_of_mem : ∀ {l : List (Nat × Int)} {c : Nat}, c ∈ l.map (·.1) → ∃ r, l.lookup c = some r
 | [], c, h => by simp at h
 | (k, v) :: l, c, h => by
  by_cases e : c = k
  ·exact ⟨v, by simp [List.lookup, e]⟩
  ·have hm : c ∈ l.map (·.1) := by
    rcases List.mem_cons.mp h with z | z
    ·exact absurd z e
    ·exact z
   obtain ⟨r, hr⟩ := lookup_of_mem hm
   exact ⟨r, by rw [List.lookup_cons, beq_false_of_ne e]; exact hr⟩
theorem Dfa.next_arcs (D : Dfa) (q : Int) (c : Nat) : D.next q c = (D.arcs q).lookup c := by
 unfold Dfa.next Dfa.arcs
 cases D.tr.lookup q <;> rfl
theorem Dfa.next_of_labs {D : Dfa} {q : Int} {c : Nat} (h : c ∈ D.labs q) : ∃ r, D.next q c = some r := by
 rw [Dfa.next_arcs]
 exact lookup_of_mem h
noncomputable def addI (l : List Int) (v : Int) : List Int := if l.any (· == v) then l else l ++ [v]
noncomputable def addsI (l : List Int) (vs : List Int) : List Int := vs.foldl addI l
noncomputable def Dfa.states (D : Dfa) : List Int := addsI (addsI [] (D.tr.map (·.1))) (D.tr.flatMap fun x => x.2.map (·.2))
end
section
open PySem PySem.W PyProof.Rows
noncomputable def anch (pv : Addr → Prop) (h : Heap) : Heap := by
 classical
 exact keepOnly h fun b => !decide (pv b)
theorem anch_get {pv : Addr → Prop} {h : Heap} {b : Addr} {o : Obj} : (anch pv h).get? b = some o ↔ h.get? b = some o ∧ ¬ pv b := by
 classical
 unfold anch
 rw [keepOnly_get]
 simp
theorem anch_none {pv : Addr → Prop} {h : Heap} {b : Addr} : (anch pv h).get? b = none ↔ (h.get? b = none ∨ pv b) := by
 constructor
 ·intro e
  by_cases p : pv b
  ·exact .inr p
  ·cases q : h.get? b with
   | none => exact .inl rfl
   | some o =>
    have := anch_get.mpr ⟨q, p⟩
    rw [e] at this; cases this
 ·intro e
  cases q : (anch pv h).get? b with
  | none => rfl
  | some o =>
   have := anch_get.mp q
   rcases e with e | e
   ·rw [e] at this; cases this.1
   ·exact absurd e this.2
noncomputable def privs (h₀ h : Heap) : Addr → Prop := fun b => h.get? b ≠ none ∧ h₀.get? b = none
theorem Cur.wake {g₀ h₀ : Heap} {L : Addr} {g h h'' : Heap} {m} {ow : List Ent} (C : Cur RO g₀ h₀ L g h m ow) (same : ∀ b o, privs h₀ h b → h.get? b = some o → h''.get? b = some o) (kg : Keep g₀ h'') :
  Cur RO g₀ (anch (privs h₀ h) h'') L g h'' m ow := by
 have pL : privs h₀ h L := ⟨Ns_some C.F.ns, C.new⟩
 have kh : Keep g h'' := fun b o e => by
  cases q : g₀.get? b with
  | some o' =>
   have := C.X.gg b o' q
   rw [e] at this; cases this
   exact kg b o q
  | none =>
   have z := (C.X.fresh b (by rw [e]; exact Option.some_ne_none _) q).resolve_left (fun v => v.elim)
   have e' := C.X.gh b o e
   exact same b o ⟨by rw [e']; exact Option.some_ne_none _, z⟩ e'
 have po : ∀ e ∈ ow, privs h₀ h e.1 := fun e me => ⟨(C.O.at_ e me).live, (C.vis e me).resolve_left fun v => v.elim⟩
 refine ⟨⟨C.X.gg, kh, fun b o _ e => (anch_get.mp e).1, fun b e => ?_, fun b e n => .inr (anch_none.mpr (.inr ?_))⟩, ⟨Ns_at C.F.ns fun o e => same L o pL e, C.F.off⟩, anch_none.mpr (.inr pL), ⟨fun e me => ?_, C.O.nd, C.O.off⟩, C.nL, fun e me => .inr (anch_none.mpr (.inr (po e me)))⟩
 ·cases q : (anch (privs h₀ h) h'').get? b with
  | none => exact absurd q e
  | some o => rw [(anch_get.mp q).1]; exact Option.some_ne_none _
 ·refine ⟨?_, (C.X.fresh b e n).resolve_left fun v => v.elim⟩
  cases q : g.get? b with
  | none => exact absurd q e
  | some o => rw [C.X.gh b o q]; exact Option.some_ne_none _
 ·obtain ⟨o, q, r⟩ := C.O.at_ e me
  exact ⟨o, same _ o (po e me) q, r⟩
theorem Cur.other {V : Addr → Prop} {g₀ h₀ : Heap} {L : Addr} {g h h' : Heap} {m} {ow : List Ent} {pv : Addr → Prop} (C : Cur V g₀ h₀ L g h m ow) (k : ∀ b o, ¬ pv b → h.get? b = some o → h'.get? b = some o)
  (p1 : ∀ b, pv b → g.get? b = none) (p2 : ∀ b, pv b → h₀.get? b = none) (p3 : ¬ pv L) (p4 : ∀ e ∈ ow, ¬ pv e.1) : Cur V g₀ h₀ L g h' m ow := by
 refine ⟨⟨C.X.gg, fun b o e => k b o (fun z => by rw [p1 b z] at e; cases e) (C.X.gh b o e), fun b o nv e => k b o (fun z => by rw [p2 b z] at e; cases e) (C.X.old b o nv e), fun b e => ?_, C.X.fresh⟩,
  ⟨Ns_at C.F.ns fun o e => k L o p3 e, C.F.off⟩, C.new, ⟨fun e me => ?_, C.O.nd, C.O.off⟩, C.nL, C.vis⟩
 ·have l := C.X.live b e
  cases q : h.get? b with
  | none => exact absurd q l
  | some o => rw [k b o (fun z => e (p2 b z)) q]; exact Option.some_ne_none _
 ·obtain ⟨o, q, r⟩ := C.O.at_ e me
  exact ⟨o, k _ o (p4 e me) q, r⟩
structure Rn (g : Heap) (gi : Nat) (L : Addr) (pv : Addr → Prop) (gv : Nat → Prop) (s₀ : Shared) (g₁ : Heap) (m : Str → Option Value) (ow : List Ent) (s : Shared) : Prop where
 C : Cur RO g (anch pv s₀.heap) L g₁ s.heap m ow
 kg : Keep g (anch pv s₀.heap)
 dr : s.drawn = s₀.drawn
 os : s.os = s₀.os
 gsz : s₀.gens.size ≤ s.gens.size
 gold : ∀ k, ¬ gv k → k < s₀.gens.size → s.gens[k]? = s₀.gens[k]?
 gl : ∀ k, gv k → k < s₀.gens.size
 gi1 : gi < s₀.gens.size
 gi2 : ¬ gv gi
 br : AllBare s₀.gens → AllBare s.gens
theorem Rn.chg {g : Heap} {gi : Nat} {L : Addr} {pv gv} {s₀ : Shared} {g₁ : Heap} {m} {ow} {s : Shared} (R : Rn g gi L pv gv s₀ g₁ m ow s) : Chg pv gv s₀ s :=
 ⟨R.dr, R.os, fun b o n e => R.C.X.old b o id (anch_get.mpr ⟨e, n⟩), R.gsz, R.gold, R.br⟩
noncomputable def prigs (gv : Nat → Prop) (s₀ s : Shared) : Nat → Prop := fun k => (gv k ∨ s₀.gens.size ≤ k) ∧ k < s.gens.size
theorem Rn.yield {w : World} {g : Heap} {gi dmax : Nat} {L : Addr} {pv gv} {s₀ : Shared} {g₁ : Heap} {m} {ow} {s : Shared} (R : Rn g gi L pv gv s₀ g₁ m ow s) {x : List Nat} {rest : List (List Nat)} {tx : Tok} {b : Bool} {l : List Value} {k : Resume → Sem Fin} {c : Code} {p : Pos} {fs : List Frame}
  (hq : (End.susp (.str (st x) tx) b l k c p fs).quiet = true)
  (H : ∀ s'' A, Rn g gi L (privs (anch pv s₀.heap) s.heap) (prigs gv s₀ s) s'' g₁ m ow s'' → Same (privs (anch pv s₀.heap) s.heap) (prigs gv s₀ s) s s'' → A.handled = none → A.depth ≤ dmax →
   Step (model P w) A (GEnd w g gi dmax rest (privs (anch pv s₀.heap) s.heap) (prigs gv s₀ s) s'') c (k (.send .none)) fs s'') :
  GEnd w g gi dmax (x :: rest) pv gv s₀ (.susp (.str (st x) tx) b l k c p fs) s := by
 have ngi : ¬ prigs gv s₀ s gi := fun z => by
  rcases z.1 with q | q
  ·exact R.gi2 q
  ·exact absurd R.gi1 (Nat.not_lt.mpr q)
 refine ⟨hq, ⟨tx, rfl⟩, privs (anch pv s₀.heap) s.heap, prigs gv s₀ s, ⟨fun b z => ?_, fun b z => ?_, fun b z => z.1, fun k z => z.1, fun k z => z.2⟩, ngi, R.chg, fun s'' A sm kg h1 h2 => H s'' A ?_ sm h1 h2⟩
 ·exact (anch_none.mp z.2).symm
 ·cases q : g.get? b with
  | none => rfl
  | some o =>
   exact absurd ((R.kg b o q).symm.trans z.2) (fun y => by cases y)
 ·exact ⟨R.C.wake (fun b o z e => sm.old b o z e) kg, fun b o e => anch_get.mpr ⟨kg b o e, fun z => absurd ((R.kg b o e).symm.trans z.2) (fun y => by cases y)⟩, rfl, rfl, Nat.le_refl _, fun _ _ _ => rfl, fun k z => Nat.lt_of_lt_of_le z.2 sm.gsz, by
   exact Nat.lt_of_lt_of_le (Nat.lt_of_lt_of_le R.gi1 R.gsz) sm.gsz, ngi, id⟩
end
section
open PySem PySem.W PyProof.Rows
structure KF12 (K : Frag) : Prop extends KF11 K where
 mGen : Meth K 245 "generate_all" "FSA.generate_all" 85 84 (clsSt 4 6) (.ref 78)
 dGen : ∃ o n t, K.lookup 78 = some o ∧ o.data = .seq #[.none, .str "" t] n
noncomputable abbrev eGen (L : Addr) : Env := envOf "FSA.generate_all" (fnOfSt (clsSt 4 6)).scope L 85 (.ref 84)
noncomputable def genSt (i : Nat) : Stmt := (fnOfSt (clsSt 4 6)).body.getD i (.Pass default)
noncomputable def forT : Stmt → Expr
 | .For t _ _ _ _ => t
 | _ => default
noncomputable abbrev forB (s : Stmt) : List Stmt := bodyOf s
noncomputable def genIn : Stmt := (forB (genSt 2)).getD 1 (.Pass default)
theorem iterListAll {w : World} {A : Around} {E : Value → Shared → Prop} {env : Env} {gs : Array GenState} {dr : Drawn} {os : OsState} {t : Tok}
  {V : Addr → Prop} {g₀ h₀ g h : Heap} {m : Str → Option Value} {ow : List Ent} {l : Addr} {items : Array Value} {Q : Value → Shared → Prop} (hk : env.scope.kind = .function) (C : Cur V g₀ h₀ env.locals g h m ow) (hl : g.IsList l items)
  (H : ∀ I h' fe St, Cur V g₀ h₀ env.locals g h' m (fe ++ ow) → (∀ A' : Around, A'.handled = none → FeedN w A' env I items.size g h₀ fe St (fun i v => items[i]? = some v) h') → Q (.ref I) ⟨h', gs, dr, t, os⟩) :
  wpAny (model P w) A (pyIter (.ref l)) Q E ⟨h, gs, dr, t, os⟩ := by
 have hl' : h.IsList l items := hl.at fun o e => C.X.gh _ _ e
 refine wpAny_pyIter_list (s := ⟨h, gs, dr, t, os⟩) hl' ?_
 obtain ⟨C', nw⟩ := C.alloc (o := { cls := .type "list_iterator", data := .fields #[.ref l, .int 0 0] }) (Pr := fun _ => True) rfl fun _ _ _ => trivial
 have hg : g.get? l ≠ none := by obtain ⟨o, q, _⟩ := hl; rw [q]; exact Option.some_ne_none _
 have hne : l ≠ h.objs.size := fun z => by
  obtain ⟨o, q, _⟩ := hl'
  rw [z, size_none] at q; cases q
 refine H h.objs.size _ [(h.objs.size, fun _ => True)] _ C' fun A' hh => ⟨fun y py hl => Feed.name (Walks.list hh _ l hne items) (fun b mb => ?_) (fun i h st b mb => ?_) hk hl, fun b mb => ?_, ⟨⟨⟨_, Heap.get?_push_size h rfl, rfl, rfl⟩, hl.at fun o e => C'.X.gh _ _ e⟩, C'.X.gh⟩⟩
 ·rcases List.mem_cons.mp mb with q | q
  ·exact .inl (List.mem_singleton.mpr q)
  ·rw [List.mem_singleton.mp q]; exact .inr hg
 ·obtain ⟨⟨o, q, _⟩, _⟩ := st
  rw [show b = _ from List.mem_singleton.mp mb, q]; exact Option.some_ne_none _
 ·rw [show b = _ from List.mem_singleton.mp mb]; exact nw
section
variable {w : World} {K : Frag} {mg mb : Str → Option Value} {g g₁ : Heap} {gi dmax : Nat} {L : Addr} {m : Str → Option Value} {ow : List Ent}
theorem gen_inner (B : Base w K mg mb g₁) (hroom : dmax + 10 ≤ recursionLimit) {a : Addr} {gii : Nat} (ha : g₁.IsGen a gii) {later : List (List Nat)} {body : List Stmt} {e' : Env} {k0 : Result → Sem Fin} {l0 : List Value} {p0 p1 : Pos} {T : Expr} {it : Value} {bd od : List Stmt} {k1 : Result → Sem Fin} {l1 : List Value}
  (hk : ∀ pv gv s₀ A m' s, Rn g gi L pv gv s₀ g₁ m' ow s → (∀ y : Str, y ≠ "string" → m' y = m y) → A.handled = none → A.depth ≤ dmax →
   Step (model P w) A (GEnd w g gi dmax later pv gv s₀) (.forLoop T it bd od (eGen L)) (k1 (.ok .next)) [.ret k0 none false l0 (.func body e') p0 []] s) :
  ∀ (outs : List (List Nat)) (pv : Addr → Prop) (gv : Nat → Prop) (s₀ : Shared) (A : Around) (m' : Str → Option Value) (s : Shared) (pvi : Addr → Prop) (gvi : Nat → Prop),
   Rn g gi L pv gv s₀ g₁ m' ow s → (∀ y : Str, y ≠ "string" → m' y = m y) → A.handled = none → A.depth ≤ dmax → GLive w g₁ (dmax + 1) outs pvi gvi gii s →
   (∀ b, pvi b → (anch pv s₀.heap).get? b = none) → ¬ pvi L → (∀ e ∈ ow, ¬ pvi e.1) → (∀ k, gvi k ∨ k = gii → gv k ∨ s₀.gens.size ≤ k) →
   Step (model P w) A (GEnd w g gi dmax (outs ++ later) pv gv s₀) (.forLoop (forT genIn) (.ref a) (forB genIn) [] (eGen L)) ((model P w).den (.forLoop (forT genIn) (.ref a) (forB genIn) [] (eGen L)))
    [.ret k1 none false l1 (.forLoop T it bd od (eGen L)) p1 [], .ret k0 none false l0 (.func body e') p0 []] s := by
 intro outs
 induction outs with
 | nil =>
  intro pv gv s₀ A m' s pvi gvi R hm hh hd GL q1 q2 q3 q4
  refine step_turn (next_gen (g := g₁) (dmax := dmax + 1) (by show (marksOver _ (A.handled, A.handled)).1 = none; rw [hh]; rfl) (B.lim.keeps R.C.X.gh) (by show A.depth + 1 + 0 < _; lia) (by show A.depth + 1 + 0 ≤ _; lia) (ha.keeps R.C.X.gh) GL R.C.X.gh (fun _ s' c => ?_) (fun x rest e => nomatch e))
  refine step_block0 fun c' => step_back (.ok .next) (hk pv gv s₀ A m' s' ?_ hm hh hd)
  exact ⟨R.C.other (pv := pvi) c.old GL.pg q1 q2 q3, R.kg, c.dr.trans R.dr, c.os.trans R.os, Nat.le_trans R.gsz c.gsz, fun k z hk => by
   rw [c.gold k (fun y => (q4 k y).elim z fun u => absurd hk (Nat.not_lt.mpr u)) (Nat.lt_of_lt_of_le hk R.gsz), R.gold k z hk], R.gl, R.gi1, R.gi2, fun hb => c.br (R.br hb)⟩
 | cons x rest ih =>
  intro pv gv s₀ A m' s pvi gvi R hm hh hd GL q1 q2 q3 q4
  refine step_turn (next_gen (g := g₁) (dmax := dmax + 1) (by show (marksOver _ (A.handled, A.handled)).1 = none; rw [hh]; rfl) (B.lim.keeps R.C.X.gh) (by show A.depth + 1 + 0 < _; lia) (by show A.depth + 1 + 0 ≤ _; lia) (ha.keeps R.C.X.gh) GL R.C.X.gh (fun e => nomatch e) (fun x' rest' e s' tx pvi' gvi' G c GL' => ?_))
  obtain ⟨rfl, rfl⟩ : x = x' ∧ rest = rest' := by injection e with e1 e2; exact ⟨e1, e2⟩
  have C' := R.C.other (pv := pvi) c.old GL.pg q1 q2 q3
  have gi2' : ∀ k, gvi' k ∨ k = gii → gv k ∨ s₀.gens.size ≤ k := fun k z => by
   rcases z with z | z
   ·rcases G.gn k z with y | y
    ·exact q4 k (.inl y)
    ·exact .inr (Nat.le_trans R.gsz y)
   ·exact q4 k (.inr z)
  have R' : Rn g gi L pv gv s₀ g₁ m' ow s' := ⟨C', R.kg, c.dr.trans R.dr, c.os.trans R.os, Nat.le_trans R.gsz c.gsz, fun k z hk => by
   rw [c.gold k (fun y => (q4 k y).elim z fun u => absurd hk (Nat.not_lt.mpr u)) (Nat.lt_of_lt_of_le hk R.gsz), R.gold k z hk], R.gl, R.gi1, R.gi2, fun hb => c.br (R.br hb)⟩
  have nLs : s.heap.get? L ≠ none := Ns_some R.C.F.ns
  have q2' : ¬ pvi' L := fun z => by
   rcases G.pn L z with y | y
   ·exact q2 y
   ·exact nLs y
  have q3' : ∀ e ∈ ow, ¬ pvi' e.1 := fun e me z => by
   rcases G.pn e.1 z with y | y
   ·exact q3 e me y
   ·exact (R.C.O.at_ e me).live y
  have q1' : ∀ b, pvi' b → (anch pv s₀.heap).get? b = none := fun b z => by
   rcases G.pn b z with y | y
   ·exact q1 b y
   ·cases u : (anch pv s₀.heap).get? b with
    | none => rfl
    | some o => rw [R.C.X.old b o id u] at y; cases y
  obtain ⟨hp, gsn, drn, tkn, osn⟩ := s'
  refine wpAny_of_eq (rfl : letOwnedTupleGo (forT genIn) (.ref a) (.str (st x) tx) = pure ()) ?_
  refine wpAny_assign_Name (storeL C' fun h₂ t₂ C₂ sb => fun H => ?_)
  have R₂ : Rn g gi L pv gv s₀ g₁ (fun y => if y = "string" then some (.str (st x) tx) else m' y) ow ⟨h₂, gsn, drn, t₂, osn⟩ := ⟨C₂, R'.kg, R'.dr, R'.os, R'.gsz, R'.gold, R'.gl, R'.gi1, R'.gi2, R'.br⟩
  have GL₂ : GLive w g₁ (dmax + 1) rest pvi' gvi' gii ⟨h₂, gsn, drn, t₂, osn⟩ := GL'.same ⟨fun b o z e => (sb.2 b fun y => q2' (y ▸ z)).trans e, Nat.le_refl _, fun _ _ => rfl⟩ rfl
  refine step_first (step_Yield rfl (nameL C₂ sam fun k' p _ hk' => ?_))
  rw [List.cons_append]
  refine R₂.yield rfl fun s'' A' R'' sm h1 h2 => ?_
  refine hk' _ _ _ _ trivial (step_nil (step_again rfl ?_))
  have pz : ∀ b, pvi' b → privs (anch pv s₀.heap) h₂ b := fun b z => ⟨by rw [sb.2 b fun y => q2' (y ▸ z)]; exact GL'.pl b z, q1' b z⟩
  have gz : ∀ k, gvi' k ∨ k = gii → prigs gv s₀ ⟨h₂, gsn, drn, t₂, osn⟩ k := fun k z => ⟨gi2' k z, by
   rcases z with z | z
   ·exact GL'.gl k z
   ·obtain ⟨⟨st, e, _⟩, _⟩ := GL'
    subst z
    rcases Nat.lt_or_ge k gsn.size with y | y
    ·exact y
    ·rw [Array.getElem?_eq_none y] at e; cases e⟩
  refine ih _ _ s'' A' _ s'' pvi' gvi' R'' (fun y hy => by rw [if_neg hy]; exact hm y hy) h1 h2 (GL₂.same ⟨fun b o z => sm.old b o (pz b z), sm.gsz, fun k z => sm.gold k (gz k (.inl z))⟩ (sm.gold gii (gz gii (.inr rfl)))) (fun b z => anch_none.mpr (.inr (pz b z))) q2' q3' (fun k z => .inl (gz k z))
end
end
section
open PySem PySem.W PyProof.Rows
theorem sorted_labs {w : World} {A : Around} {E : Value → Shared → Prop} {h : Heap} {gs : Array GenState} {dr : Drawn} {t : Tok} {os : OsState} {a : Addr} {ls : List Nat} {Q : Value → Shared → Prop} (hl : LabsAt h a ls) (u : ls.Pairwise (· < ·)) (h64 : ls.length < 64)
  (H : ∀ h' t' B, Keep h h' → h.get? B = none → LabsAt h' B ls → Q (.ref B) ⟨h', gs, dr, t', os⟩) :
  wpAny (model P w) A (call (.builtin "sorted") [.ref a]) Q E ⟨h, gs, dr, t, os⟩ := by
 obtain ⟨vs, e, hv, hs⟩ := hl
 have hlen : vs.size = ls.length := by have := hs.length; simpa using this
 refine sorted_texts (Dp := fun d' => d' = dr) (ss := ls.map ch) (fun R HR => ?_) (by simpa using h64) fun h' d' t' B vs' ss' e' hd' k hB hB' hS hp hss => ?_
 ·exact wpAny_collect_seq (s := ⟨h, gs, dr, t, os⟩) a (.inl rfl) hv rfl rfl (fun h' k => HR h' dr t vs.toList (ls.map ch) rfl k hs (List.Perm.refl _)) (by rw [hlen, sizeLine_eq]; lia)
 ·subst d'
  have ec : ls.map ch = (ls.map fun c => [c]).map st := by rw [List.map_map]; rfl
  have e1 : ss' = (ls.map fun c => [c]).map st := sorted_is hss (by
   have := hp.map (fun x : Str => x.cps.toList)
   rw [ec, map_st] at this
   exact this) (by
    rw [List.pairwise_map]
    exact List.Pairwise.imp (fun {a b} hab => by show ¬ [b] < [a]; rw [List.cons_lt_cons_iff]; simp [List.not_lt_nil]; lia) u)
  exact H h' t' B k hB ⟨vs', e', hB', by rw [ec, ← e1]; exact hS⟩
theorem Rn.cur {g : Heap} {gi : Nat} {L : Addr} {pv gv} {s₀ : Shared} {g₁ g₂ : Heap} {m m' : Str → Option Value} {ow ow' : List Ent} {s s' : Shared} (R : Rn g gi L pv gv s₀ g₁ m ow s) (C : Cur RO g (anch pv s₀.heap) L g₂ s'.heap m' ow')
  (e1 : s'.gens = s.gens) (e2 : s'.drawn = s.drawn) (e3 : s'.os = s.os) : Rn g gi L pv gv s₀ g₂ m' ow' s' :=
 ⟨C, R.kg, e2.trans R.dr, e3.trans R.os, by rw [e1]; exact R.gsz, by rw [e1]; exact R.gold, R.gl, R.gi1, R.gi2, by rw [e1]; exact R.br⟩
theorem Rn.more {g : Heap} {gi : Nat} {L : Addr} {pv gv} {s₀ : Shared} {g₁ g₂ : Heap} {m m' : Str → Option Value} {ow ow' : List Ent} {s s' : Shared} {x : GenState} (R : Rn g gi L pv gv s₀ g₁ m ow s) (C : Cur RO g (anch pv s₀.heap) L g₂ s'.heap m' ow')
  (e1 : s'.gens = s.gens.push x) (e2 : s'.drawn = s.drawn) (e3 : s'.os = s.os) (hx : x.bare = true) : Rn g gi L pv gv s₀ g₂ m' ow' s' :=
 ⟨C, R.kg, e2.trans R.dr, e3.trans R.os, by rw [e1, Array.size_push]; exact Nat.le_succ_of_le R.gsz, fun k a b => by
  rw [e1, Array.getElem?_push, if_neg (Nat.ne_of_lt (Nat.lt_of_lt_of_le b R.gsz))]; exact R.gold k a b, R.gl, R.gi1, R.gi2, fun hb => by rw [e1]; exact (R.br hb).push hx⟩
noncomputable def GenRec (w : World) (K : Frag) (mg mb : Str → Option Value) (d dx T Df F U : Addr) (D : Dfa) (n : Nat) : Prop :=
 ∀ (A : Around) (g h : Heap) (gs : Array GenState) (dr : Drawn) (t : Tok) (os : OsState) (q : Int) (tq : Tok) (p : List Nat) (tp : Tok) (R : Result → Shared → Prop) (dmax : Nat),
  Keep g h → Base w K mg mb g → DfaAt w g d dx T Df F U D → D.Deep n q → p.length + n ≤ 500 → A.handled = none → A.depth < recursionLimit → dmax + n + 10 ≤ recursionLimit →
  (∀ g' h' t' a L st', st'.bare = true → Ext RO g h g' h' → g'.IsGen a gs.size → GLive w g' dmax (D.gen n q p) (fun b => b = L) (fun _ => False) gs.size ⟨h', gs.push st', dr, t', os⟩ → h.get? L = none → R (.ok (.ret (.ref a))) ⟨h', gs.push st', dr, t', os⟩) →
  codeAny (model P w) A (.call (.ref 85) ⟨[.ref d, .int q tq, .str (st p) tp], []⟩) R ⟨h, gs, dr, t, os⟩
noncomputable def outsAt (D : Dfa) (n : Nat) (q : Int) (p : List Nat) (l : List Nat) : List (List Nat) := l.flatMap fun c => match D.next q c with
  | some r => D.gen n r (p ++ [c])
  | none => []
section
variable {w : World} {K : Frag} {mg mb : Str → Option Value} {g : Heap} {gi dmax : Nat} {L d dx T Df F U : Addr} {D : Dfa} {n : Nat} {q : Int} {tq : Tok} {p : List Nat} {tp : Tok}
theorem gen_outer (kf : KF12 K) (B : Base w K mg mb g) (I : DfaAt w g d dx T Df F U D) (hroom : dmax + (n + 1) + 10 ≤ recursionLimit) (deep : ∀ c r, D.next q c = some r → D.Deep n r) (hp : p.length + (n + 1) ≤ 500) (rec : GenRec w K mg mb d dx T Df F U D n)
  {k0 : Result → Sem Fin} {l0 : List Value} {p0 : Pos} (hk0 : k0 (.ok .next) = leafOf (.ok (.ret .none))) {body : List Stmt} {e' : Env} {it : Addr} {gq : Heap} {items : Array Value} {ls : List Nat} (hls : ∀ c ∈ ls, ∃ r, D.next q c = some r) (hsz : items.size = ls.length) (hit : ∀ (k c : Nat), ls[k]? = some c → ∃ t, items[k]? = some (.str (ch c) t))
  {wr : List Addr} {St : Nat → Heap → Prop} (FD : ∀ A' : Around, A'.handled = none → ∀ y py, (eGen L).kindOf y = some .local → Feed w A' (eGen L) (.Name y py) (.ref it) items.size gq wr St (fun i m m' => ∃ v, items[i]? = some v ∧ m' = fun z => if z = y then some v else m z)) :
  ∀ (j k : Nat), ls.length - k = j → k ≤ ls.length → ∀ (pv : Addr → Prop) (gv : Nat → Prop) (s₀ : Shared) (A : Around) (m : Str → Option Value) (s : Shared) (fe : List Ent) (g₁ : Heap),
   Rn g gi L pv gv s₀ g₁ m fe s → fe.map (·.1) = wr → St k s.heap → Keep gq g₁ → m "self" = some (.ref d) → m "state" = some (.int q tq) → m "sofar" = some (.str (st p) tp) → A.handled = none → A.depth ≤ dmax →
   Step (model P w) A (GEnd w g gi dmax (outsAt D n q p (ls.drop k)) pv gv s₀) (.forLoop (forT (genSt 2)) (.ref it) (forB (genSt 2)) [] (eGen L)) ((model P w).den (.forLoop (forT (genSt 2)) (.ref it) (forB (genSt 2)) [] (eGen L)))
    [.ret k0 none false l0 (.func body e') p0 []] s := by
 intro j
 induction j with
 | zero =>
  intro k hj hk pv gv s₀ A m s fe g₁ R hw hst kq _ _ _ hh hd
  have e : k = ls.length := by lia
  subst e
  obtain ⟨h, gs, dr, t, os⟩ := s
  have new : ∀ b ∈ wr, (anch pv s₀.heap).get? b = none := fun b mb => by
   rw [← hw] at mb
   obtain ⟨e, me, rfl⟩ := List.mem_map.mp mb
   exact (R.C.vis e me).resolve_left fun v => v.elim
  refine step_turn ((FD _ (by show (marksOver _ (A.handled, A.handled)).1 = none; rw [hh]; rfl) "label" _ (by rfl)).done (fe := fe) (ow := []) (g := g₁) _ _ _ new kq (by rw [List.append_nil]; exact R.C) hw (by rw [hsz]; exact hst) fun h' t' C' => ?_)
  refine step_block0 fun c' => step_back (.ok .next) ?_
  rw [hk0]
  refine step_end _ ?_
  rw [List.drop_length]
  have R' : Rn g gi L pv gv s₀ g₁ m [] ⟨h', gs, dr, t', os⟩ := R.cur C' rfl rfl rfl
  exact ⟨rfl, R'.chg⟩
 | succ j ih =>
  intro k hj hk pv gv s₀ A m s fe g₁ R hw hst kq hself hstate hsofar hh hd
  have hlt : k < ls.length := by lia
  obtain ⟨h, gs, dr, t, os⟩ := s
  have new : ∀ b ∈ wr, (anch pv s₀.heap).get? b = none := fun b mb => by
   rw [← hw] at mb
   obtain ⟨e, me, rfl⟩ := List.mem_map.mp mb
   exact (R.C.vis e me).resolve_left fun v => v.elim
  obtain ⟨c, hc⟩ : ∃ c, ls[k]? = some c := ⟨ls[k], by simp [hlt]⟩
  obtain ⟨r, hr⟩ := hls c (List.mem_of_getElem? hc)
  obtain ⟨tc, hic⟩ := hit k c hc
  have hdrop : ls.drop k = c :: ls.drop (k + 1) := by
   rw [List.drop_eq_getElem_cons hlt]
   congr 1
   rw [List.getElem?_eq_getElem hlt] at hc
   exact Option.some.inj hc
  have hout : outsAt D n q p (ls.drop k) = D.gen n r (p ++ [c]) ++ outsAt D n q p (ls.drop (k + 1)) := by
   rw [hdrop]; unfold outsAt; rw [List.flatMap_cons, hr]
  rw [hout]
  have FF := FD (A.over (.forLoop (forT (genSt 2)) (.ref it) (forB (genSt 2)) [] (eGen L)) [.ret k0 none false l0 (.func body e') p0 []]) (by show (marksOver _ (A.handled, A.handled)).1 = none; rw [hh]; rfl) "label"
  refine step_turn ((FF _ (by rfl)).item (fe := fe) (ow := []) (g := g₁) k _ _ _ (by rw [hsz]; exact hlt) new kq (by rw [List.append_nil]; exact R.C) hw hst fun h₂ m₂ t₂ fe₂ hw₂ hx₂ C₂ hst₂ hpm => fun H => ?_)
  obtain ⟨v, hv, rfl⟩ := hpm
  rw [hic] at hv
  cases hv
  rw [List.append_nil] at C₂
  have B₁ := B.keeps C₂.X.gg
  have I₁ := I.keeps C₂.X.gg
  refine exE2 I₁.inst fun _ _ I₀ => ?_
  have hhA : (A.over (.forLoop (forT (genSt 2)) (.ref it) (forB (genSt 2)) [] (eGen L)) [.ret k0 none false l0 (.func body e') p0 []]).handled = none := by show (marksOver _ (A.handled, A.handled)).1 = none; rw [hh]; rfl
  have hdA : (A.over (.forLoop (forT (genSt 2)) (.ref it) (forB (genSt 2)) [] (eGen L)) [.ret k0 none false l0 (.func body e') p0 []]).depth = A.depth + 1 := rfl
  refine step_stmt (assignL (meth2_ C₂ B₁.X (oth hself) I₀ kf.mNext (by rfl) (nameL C₂ (oth hstate) (nameL C₂ sam ⟨B₁.X.keeps C₂.X.gh, ?_⟩))))
  refine next_state_spec kf.toKF C₂.X.gh B₁ (by rw [hdA]; lia) I₁ fun g₃ h₃ t₃ vn x₃ hvn => ?_
  rw [hr] at hvn
  cases hvn with
  | @int r ti =>
  refine storeL (C₂.ro x₃) fun h₄ t₄ C₄ sb₄ => ?_
  have B₃ := B₁.keeps x₃.gg
  have I₃ := I₁.keeps x₃.gg
  refine exE2 I₃.inst fun _ _ I₀₃ => ?_
  refine step_first (step_For (meth2_ C₄ B₃.X (oth (oth hself)) I₀₃ kf.mGen (by rfl) (nameL C₄ sam (wpAny_BinOp (nameL C₄ (oth (oth hsofar)) (nameL C₄ (oth sam) (PyProof.Rows.add_str (fun t₅ tk₅ => ⟨B₃.X.keeps C₄.X.gh, ?_⟩) ?_)))))))
  ·have e2 : st p ++ ch c = st (p ++ [c]) := by
    show (⟨_⟩ : Str) = ⟨_⟩
    congr 1
    apply Array.toList_inj.mp
    simp [st, ch]
   rw [e2]
   refine rec _ g₃ h₄ gs dr tk₅ os r ti (p ++ [c]) t₅ _ (dmax + 1) C₄.X.gh B₃ I₃ (deep c r hr) (by simp; lia) hhA (by rw [hdA]; lia) (by lia) fun g₆ h₆ t₆ a Li st' hbst x₆ ha GL hLi => ?_
   have C₆ := C₄.ro x₆
   refine wpAny_pyIter_gen (s := ⟨h₆, gs.push st', dr, t₆, os⟩) (ha.keeps C₆.X.gh) fun k' l p1 ek _ => ?_
   have R₆ : Rn g gi L pv gv s₀ g₆ _ fe₂ ⟨h₆, gs.push st', dr, t₆, os⟩ := R.more C₆ rfl rfl rfl hbst
   refine gen_inner (dmax := dmax) (K := K) (mg := mg) (mb := mb) (B₃.keeps x₆.gg) (by lia) (m := fun y => if y = "newstate" then some (.int r ti) else if y = "label" then some (.str (ch c) tc) else m y) ha (fun pv' gv' s₀' A' m' s' R' hm' hh' hd' => ?_) _ pv gv s₀ A _ _ _ _ R₆ (fun y hy => rfl) hh hd GL (fun b z => ?_) (fun z => ?_) (fun e me z => ?_) (fun k z => .inr ?_)
   ·rw [ek]
    refine step_nil (step_again rfl ?_)
    have hst' : St (k + 1) s'.heap := (FF default (by rfl)).frame (k + 1) h₂ s'.heap (kq.trans ((x₃.gg.trans x₆.gg).trans R'.C.X.gh)) hst₂ fun b mb o eo => by
     rw [← hw₂] at mb
     obtain ⟨e, me, rfl⟩ := List.mem_map.mp mb
     have := R'.C.get e me
     rw [hx₂ e me] at this
     exact this.trans eo
    exact ih (k + 1) (by lia) hlt pv' gv' s₀' A' m' s' fe₂ g₆ R' hw₂ hst' (kq.trans (x₃.gg.trans x₆.gg)) ((hm' _ (by decide)).trans (oth (oth hself))) ((hm' _ (by decide)).trans (oth (oth hstate))) ((hm' _ (by decide)).trans (oth (oth hsofar))) hh' hd'
   ·subst z
    cases u : (anch pv s₀.heap).get? b with
    | none => rfl
    | some o =>
     have := C₄.X.old b o id u
     rw [hLi] at this; cases this
   ·subst z; exact Ns_some C₄.F.ns hLi
   ·exact (C₄.O.at_ e me).live (by rw [z]; exact hLi)
   ·rcases z with z | z
    ·exact z.elim
    ·rw [z]; exact R.gsz
  ·have e1 : (st p).length = p.length := by simp [st, Str.length]
   have e2 : (ch c).length = 1 := rfl
   rw [e1, e2, sizeLine_eq]
   lia
end
end
section
open PySem PySem.W PyProof.Rows
section
variable {w : World} {K : Frag} {mg mb : Str → Option Value} {g : Heap} {gi dmax : Nat} {L d dx T Df F U : Addr} {D : Dfa} {n : Nat} {q : Int} {p : List Nat} {tp : Tok}
noncomputable abbrev genFin : Flow → Sem Fin := fun f => .pure (.done (.ret (match f with | .ret v => v | _ => .none)))
noncomputable def genBody : List Stmt := (fnOfSt (clsSt 4 6)).body
theorem labs_up {D : Dfa} (up : D.Up) (q : Int) : (D.labs q).Pairwise (· < ·) ∧ (D.labs q).length < 64 := ⟨(up q).1, by simpa [Dfa.labs] using (up q).2⟩
theorem gen_tail (kf : KF12 K) (B : Base w K mg mb g) (I : DfaAt w g d dx T Df F U D) (up : D.Up) (hroom : dmax + (n + 1) + 10 ≤ recursionLimit) (deep : ∀ c r, D.next q c = some r → D.Deep n r) (hp : p.length + (n + 1) ≤ 500) (rec : GenRec w K mg mb d dx T Df F U D n)
  {pv : Addr → Prop} {gv : Nat → Prop} {s₀ : Shared} {A : Around} {m : Str → Option Value} {s : Shared} {g₁ : Heap} {tq : Tok} {H : Value → Sem Fin} {gd : Bool → Bool} {lv : List Value → List Value} (hgd : gd false = false)
  (R : Rn g gi L pv gv s₀ g₁ m [] s) (hself : m "self" = some (.ref d)) (hstate : m "state" = some (.int q tq)) (hsofar : m "sofar" = some (.str (st p) tp)) (hh : A.handled = none) (hd : A.depth ≤ dmax) :
  Step (model P w) A (GEnd w g gi dmax (outsAt D n q p (D.labs q)) pv gv s₀) (.func genBody (eGen L)) ((execs [genSt 2] (eGen L)).wrap genFin H gd lv) [] s := by
 obtain ⟨h, gs, dr, t, os⟩ := s
 have B₁ := B.keeps R.C.X.gg
 have I₁ := I.keeps R.C.X.gg
 refine exE2 I₁.inst fun _ _ I₀ => ?_
 have hhA : (A.over (.func genBody (eGen L)) []).handled = none := hh
 have hdA : (A.over (.func genBody (eGen L)) []).depth = A.depth + 1 := rfl
 refine step_first (step_For (callF1 R.C.X.gh B₁ (kf.bn "sorted" (by decide)) bt_sorted (by decide) (meth1_ R.C B₁.X hself I₀ kf.mLabels (by rfl) (nameL R.C hstate ⟨B₁.X.keeps R.C.X.gh, ?_⟩))))
 refine labels_spec kf.toKF10 R.C.X.gh B₁ (by rw [hdA]; omega) hhA I₁ up fun g₂ h₂ t₂ a x₂ hl => ?_
 have C₂ := R.C.ro x₂
 refine sorted_labs (hl.keeps C₂.X.gh) (labs_up up q).1 (labs_up up q).2 fun h₃ t₃ b k₃ nb hb => ?_
 (refine Exists.elim (C₂.kept k₃) fun g₃ zr1 => anE3 zr1 fun C₃ kg₃ hg₃ => ?_; clear zr1)
 have hb₃ : LabsAt g₃ b (D.labs q) := by
  obtain ⟨vs, e, q1, q2⟩ := hb
  exact ⟨vs, e, hg₃ _ _ q1 nb, q2⟩
 (refine Exists.elim hb₃.isList fun items zr2 => anE3 zr2 fun hil hsz hit => ?_; clear zr2)
 refine iterListAll (env := eGen L) (by rfl) C₃ hil fun it h₄ fe St C₄ FD => ?_
 intro k' l p1 ek _
 rw [hgd]
 have F0 := FD ({} : Around) rfl
 refine gen_outer kf B I hroom deep hp rec (by rw [ek]; rfl) (fun c hc => Dfa.next_of_labs hc) hsz hit (fun A' h' y py hl => (FD A' h').feed y py hl) _ 0 rfl (Nat.zero_le _) pv gv s₀ A m ⟨h₄, gs, dr, t₃, os⟩ fe g₃ ?_ rfl F0.st (Keep.refl _) hself hstate hsofar hh hd
 rw [List.append_nil] at C₄
 exact R.cur C₄ rfl rfl rfl
theorem gen_body (kf : KF12 K) (B : Base w K mg mb g) (I : DfaAt w g d dx T Df F U D) (up : D.Up) (hroom : dmax + (n + 1) + 10 ≤ recursionLimit) (deep : ∀ c r, D.next q c = some r → D.Deep n r) (hp : p.length + (n + 1) ≤ 500) (rec : GenRec w K mg mb d dx T Df F U D n)
  {pv : Addr → Prop} {gv : Nat → Prop} {s₀ : Shared} {A : Around} {m : Str → Option Value} {s : Shared} {g₁ : Heap} {sv : Value}
  (R : Rn g gi L pv gv s₀ g₁ m [] s) (hself : m "self" = some (.ref d)) (hsv : (sv = .none ∧ q = 0) ∨ ∃ tq, sv = .int q tq) (hstate : m "state" = some sv) (hsofar : m "sofar" = some (.str (st p) tp)) (hh : A.handled = none) (hd : A.depth ≤ dmax) :
  Step (model P w) A (GEnd w g gi dmax (D.gen (n + 1) q p) pv gv s₀) (.func genBody (eGen L)) ((model P w).den (.func genBody (eGen L))) [] s := by
 refine step_func fun H => ?_
 obtain ⟨h, gs, dr, t, os⟩ := s
 have B₁ := B.keeps R.C.X.gg
 have I₁ := I.keeps R.C.X.gg
 refine exE2 I₁.inst fun _ _ I₀ => ?_
 have hhA : (A.over (.func genBody (eGen L)) []).handled = none := hh
 have hdA : (A.over (.func genBody (eGen L)) []).depth = A.depth + 1 := rfl
 have after : ∀ g₂ h₂ t₂ tq, Cur RO g (anch pv s₀.heap) L g₂ h₂ (fun y => if y = "state" then some (.int q tq) else m y) [] →
   Step (model P w) A (GEnd w g gi dmax (D.gen (n + 1) q p) pv gv s₀) (.func genBody (eGen L)) ((execs [genSt 1, genSt 2] (eGen L)).wrap genFin H id id) [] ⟨h₂, gs, dr, t₂, os⟩ := by
  intro g₂ h₂ t₂ tq C₂
  have B₂ := B.keeps C₂.X.gg
  have I₂ := I.keeps C₂.X.gg
  refine exE2 I₂.inst fun _ _ I₀₂ => ?_
  refine step_first (step_If (isTrue_plain (meth1_ C₂ B₂.X (oth hself) I₀₂ kf.mIsFinal (by rfl) (nameL C₂ sam ⟨B₂.X.keeps C₂.X.gh, is_final_spec kf.toKF C₂.X.gh B₂ (by rw [hdA]; omega) I₂ .int fun g₃ h₃ t₃ x₃ => ?_⟩))))
  have C₃ := C₂.ro x₃
  refine wpAny_truthy_bool ?_
  unfold Dfa.gen
  cases D.fin (some q) with
  | true =>
   rw [if_pos rfl, if_pos rfl]
   refine step_first (step_Yield rfl (nameL C₃ (oth hsofar) fun k' p1 _ hk' => ?_))
   refine (R.cur (s' := ⟨h₃, gs, dr, t₃, os⟩) C₃ rfl rfl rfl).yield rfl fun s'' A' R'' sm h1 h2 => ?_
   refine hk' _ _ _ _ trivial (step_nil ?_)
   exact gen_tail kf B I up hroom deep hp rec rfl R'' (oth hself) sam (oth hsofar) h1 h2
  | false =>
   refine step_nil ?_
   exact gen_tail kf B I up hroom deep hp rec rfl (R.cur (s' := ⟨h₃, gs, dr, t₃, os⟩) C₃ rfl rfl rfl) (oth hself) sam (oth hsofar) hh hd
 rcases hsv with ⟨rfl, rfl⟩ | ⟨tq, rfl⟩
 ·refine step_stmt (assignL (wpAny_IfExp (wpAny_isTrue_Compare1 (nameL R.C hstate (constN (wpAny_is_self rfl (wpAny_truthy_bool ?_)))))))
  refine meth0_ R.C B₁.X hself I₀ kf.mStart (by rfl) (start_spec kf.toKF R.C.X.gh B₁ (by rw [hdA]; omega) I₁ fun g₂ h₂ t₂ tv x₂ => ?_)
  exact storeL (R.C.ro x₂) fun h₃ t₃ C₃ _ => after _ _ _ _ C₃
 ·refine step_stmt (assignL (wpAny_IfExp (wpAny_isTrue_Compare1 (nameL R.C hstate (constN (wpAny_is_other rfl (by simp) (wpAny_truthy_bool ?_)))))))
  exact nameL R.C hstate (storeL R.C fun h₃ t₃ C₃ _ => after _ _ _ _ C₃)
end
end
section
open PySem PySem.W PyProof.Rows
section
variable {w : World} {A : Around} {R : Result → Shared → Prop} {K : Frag} {mg mb : Str → Option Value} {g h : Heap} {gs : Array GenState} {dr : Drawn} {t : Tok} {os : OsState} {d dx T Df F U : Addr} {D : Dfa} {n dmax : Nat} {q : Int} {p : List Nat} {tp : Tok}
theorem gen_make (kf : KF12 K) (gh : Keep g h) (B : Base w K mg mb g) (hroom : A.depth < recursionLimit) {args : Args} {binds : List (Str × Value)} {outs : List (List Nat)}
  (hbind : ∀ pm, BindsTo ⟨h, gs, dr, t, os⟩ (fnOf "generate_all" "FSA.generate_all" (fnOfSt (clsSt 4 6)).params (fnOfSt (clsSt 4 6)).body (fnOfSt (clsSt 4 6)).scope (.ref 78) .none .none pm none (.ref 84) .none) args binds)
  (hloc : ((binds.map (·.1)).all fun n => (fnOfSt (clsSt 4 6)).scope.names.lookup n == some .local) = true)
  (body : ∀ g' gi L pv gv s₀ A' s, Keep g g' → Rn g' gi L pv gv s₀ g' (fun y => binds.reverse.lookup y) [] s → A'.handled = none → A'.depth ≤ dmax →
   Step (model P w) A' (GEnd w g' gi dmax outs pv gv s₀) (.func genBody (eGen L)) ((model P w).den (.func genBody (eGen L))) [] s)
  (H : ∀ g' h' t' a L st', st'.bare = true → Ext RO g h g' h' → g'.IsGen a gs.size → GLive w g' dmax outs (fun b => b = L) (fun _ => False) gs.size ⟨h', gs.push st', dr, t', os⟩ → h.get? L = none → R (.ok (.ret (.ref a))) ⟨h', gs.push st', dr, t', os⟩) :
  codeAny (model P w) A (.call (.ref 85) args) R ⟨h, gs, dr, t, os⟩ := by
 obtain ⟨⟨pm, ho⟩, hcd⟩ := kf.mGen.fn
 refine codeAny_call_generator (body := genBody) hroom (gh _ _ (B.X _ _ ho)) rfl (by rfl) (by rfl) rfl (codeRec_of (B.X.keeps gh) hcd) ?_
 refine hbind pm _ _ _ _ ?_
 refine wpAny_newFunctionEnv (show ∀ x ∈ (fnOfSt (clsSt 4 6)).scope.names, x.2 ≠ .cell by decide +kernel) (fun x hx => by
   have := List.all_eq_true.mp hloc x.1 (List.mem_map_of_mem hx)
   simpa using this) (fun h₁ hn hs => ?_) (by rfl)
 have k1 : Keep h h₁ := fun b o e => hs.extBut b o (Nat.ne_of_lt (Heap.lt_size e)) (Heap.get?_push_of_some _ e)
 refine ⟨(B.lim.keeps gh).keeps k1, ?_⟩
 show R (.ok (.ret (.ref h₁.objs.size))) _
 generalize hob : ({ cls := .type "generator", data := .fields _ } : Obj) = ob
 have k2 : Keep h₁ (h₁.push ob) := Keep.push _ _
 have hg' : ∀ b o, (keepOnly (h₁.push ob) fun b => (g.get? b).isSome || b == h₁.objs.size).get? b = some o ↔ (h₁.push ob).get? b = some o ∧ (g.get? b ≠ none ∨ b = h₁.objs.size) := fun b o => keepOnly_own
 have nob : ob.isFreed = false := by rw [← hob]; rfl
 have hat : (h₁.push ob).get? h₁.objs.size = some ob := Heap.get?_push_size _ nob
 have kg : Keep g (keepOnly (h₁.push ob) fun b => (g.get? b).isSome || b == h₁.objs.size) := fun b o e => (hg' b o).mpr ⟨k2 b o (k1 b o (gh b o e)), .inl (by rw [e]; exact Option.some_ne_none _)⟩
 have hL : h.get? h.objs.size = none := size_none h
 have gL : g.get? h.objs.size = none := by
  cases z : g.get? h.objs.size with
  | none => rfl
  | some o => rw [gh _ _ z] at hL; cases hL
 have Lne : h.objs.size ≠ h₁.objs.size := fun z => by
  have := Ns_some hn
  have e2 := size_none h₁
  rw [← z] at e2
  exact this e2
 have g'L : (keepOnly (h₁.push ob) fun b => (g.get? b).isSome || b == h₁.objs.size).get? h.objs.size = none := by
  cases z : (keepOnly (h₁.push ob) fun b => (g.get? b).isSome || b == h₁.objs.size).get? h.objs.size with
  | none => rfl
  | some o =>
   rcases ((hg' _ o).mp z).2 with y | y
   ·exact absurd gL y
   ·exact absurd y Lne
 have hnL : (h₁.push ob).Ns h.objs.size (fun x => binds.reverse.lookup x) := Ns_at hn fun o e => k2 _ o e
 refine H (keepOnly (h₁.push ob) fun b => (g.get? b).isSome || b == h₁.objs.size) (h₁.push ob) _ h₁.objs.size h.objs.size _ rfl ⟨kg, fun b o e => ((hg' b o).mp e).1, fun b o _ e => k2 b o (k1 b o e), fun b e => live_of_keep k2 b (live_of_keep k1 b e), fun b e ne => ?_⟩ ⟨ob, _, _, (hg' _ _).mpr ⟨hat, .inr rfl⟩, by rw [← hob], by rw [← hob], by rw [← hob]⟩ ?_ hL
 ·cases z : (keepOnly (h₁.push ob) fun b => (g.get? b).isSome || b == h₁.objs.size).get? b with
  | none => exact absurd z e
  | some o =>
   rcases ((hg' _ o).mp z).2 with y | y
   ·exact absurd ne y
   ·refine .inr ?_
    rw [y]
    cases u : h.get? h₁.objs.size with
    | none => rfl
    | some o' => exact absurd (k1 _ _ u) (by rw [size_none]; exact fun z => by cases z)
 ·refine ⟨⟨.fresh (.func genBody (eGen h.objs.size)), Array.getElem?_push_size .., fun s'' A' sm kg' h1 h2 => ?_⟩, id, fun b z => by rw [z]; exact g'L, fun b z => by rw [z]; exact Ns_some hnL, fun _ z => z.elim⟩
  refine body _ gs.size h.objs.size (fun b => b = h.objs.size) (fun _ => False) s'' A' s'' kg ⟨⟨⟨Keep.refl _, kg', fun b o _ e => (anch_get.mp e).1, fun b e => ?_, fun b e ne => absurd ne e⟩, ⟨Ns_at hnL fun o e => sm.old _ o rfl e, g'L⟩, anch_none.mpr (.inr rfl), .nil, (fun _ m => absurd m List.not_mem_nil), (fun _ m => absurd m List.not_mem_nil)⟩, fun b o e => anch_get.mpr ⟨kg' b o e, fun z => ?_⟩, rfl, rfl, Nat.le_refl _, fun _ _ _ => rfl, fun _ z => z.elim, ?_, id, id⟩ h1 h2
  ·cases z : (anch (fun b => b = h.objs.size) s''.heap).get? b with
   | none => exact absurd z e
   | some o => rw [(anch_get.mp z).1]; exact Option.some_ne_none _
  ·rw [z, g'L] at e; cases e
  ·have := sm.gsz
   rw [Array.size_push] at this
   exact this
theorem gen_rec (kf : KF12 K) (up : D.Up) : ∀ n, GenRec w K mg mb d dx T Df F U D n := by
 intro n
 induction n with
 | zero =>
  intro A g h gs dr t os q tq p tp R dmax gh B I deep
  obtain ⟨k, e, _⟩ := deep.inv
  cases e
 | succ n ih =>
  intro A g h gs dr t os q tq p tp R dmax gh B I deep hp hh hroom hdm H
  obtain ⟨k, e, dp⟩ := deep.inv
  cases e
  refine gen_make (binds := [("self", .ref d), ("state", .int q tq), ("sofar", .str (st p) tp)]) kf gh B hroom (fun pm => ?_) (by rfl) (fun g' gi L pv gv s₀ A' s kg Rr h1 h2 => ?_) H
  ·(refine exE3 kf.dGen fun o n tt zr1 => anE2 zr1 fun ho hd => ?_; clear zr1)
   exact .of_defaults rfl (gh _ _ (B.X _ _ ho)) hd (by with_unfolding_all rfl) (by with_unfolding_all rfl)
  ·exact gen_body kf (B.keeps kg) (I.keeps kg) up hdm dp hp ih Rr (by rfl) (.inr ⟨tq, rfl⟩) (by rfl) (by rfl) h1 h2
theorem gen_first (kf : KF12 K) (gh : Keep g h) (B : Base w K mg mb g) (hroom : A.depth < recursionLimit) (I : DfaAt w g d dx T Df F U D) (up : D.Up) (deep : D.Deep n 0) (hn : n ≤ 500) (hd : dmax + n + 10 ≤ recursionLimit)
  (H : ∀ g' h' t' a L st', st'.bare = true → Ext RO g h g' h' → g'.IsGen a gs.size → GLive w g' dmax (D.gen n 0 []) (fun b => b = L) (fun _ => False) gs.size ⟨h', gs.push st', dr, t', os⟩ → h.get? L = none → R (.ok (.ret (.ref a))) ⟨h', gs.push st', dr, t', os⟩) :
  codeAny (model P w) A (.call (.ref 85) ⟨[.ref d], []⟩) R ⟨h, gs, dr, t, os⟩ := by
 obtain ⟨k, rfl, dp⟩ := deep.inv
 (refine exE3 kf.dGen fun o n' tt zr2 => anE2 zr2 fun ho hd' => ?_; clear zr2)
 refine gen_make (binds := [("self", .ref d), ("state", .none), ("sofar", .str "" tt)]) kf gh B hroom (fun pm => ?_) (by rfl) (fun g' gi L pv gv s₀ A' s kg Rr h1 h2 => ?_) H
 ·exact .of_defaults rfl (gh _ _ (B.X _ _ ho)) hd' (by with_unfolding_all rfl) (by with_unfolding_all rfl)
 ·exact gen_body kf (B.keeps kg) (I.keeps kg) up hd dp (by simpa using hn) (gen_rec kf up k) Rr (by rfl) (.inl ⟨rfl, rfl⟩) (by rfl) (by rfl) h1 h2
end
end
section
open PySem PySem.W PyProof.Rows
noncomputable def IntsAt (w : World) (h : Heap) (a : Addr) (l : List Int) : Prop := h.SetOf (IK w) a (fun k => l.any (· == k)) l.length
theorem IntsAt.at {w : World} {h h' : Heap} {a : Addr} {l : List Int} (x : IntsAt w h a l) (e : ∀ o, h.get? a = some o → h'.get? a = some o) : IntsAt w h' a l :=
 by obtain ⟨o, es, ep, t, ho, r⟩ := x; exact ⟨o, es, ep, t, e _ ho, r⟩
theorem isSub_dict_set : isSubtype (.type "dict") (.type "set") = pure false := by rw [isSubtype_type]; kernel_rfl
theorem isSub_dict_frozenset : isSubtype (.type "dict") (.type "frozenset") = pure false := by rw [isSubtype_type]; kernel_rfl
theorem isSub_values_set : isSubtype (.type "dict_values") (.type "set") = pure false := by rw [isSubtype_type]; kernel_rfl
theorem isSub_values_frozenset : isSubtype (.type "dict_values") (.type "frozenset") = pure false := by rw [isSubtype_type]; kernel_rfl
theorem sizeAbove_go (n : Nat) : ∀ (fuel size : Nat), SetTable.sizeAbove.go n fuel size ≤ max size (2 * n)
 | 0, size => by unfold SetTable.sizeAbove.go; exact Nat.le_max_left _ _
 | fuel + 1, size => by
  unfold SetTable.sizeAbove.go
  split
  ·have := sizeAbove_go n fuel (size * 2)
   lia
  ·exact Nat.le_max_left _ _
theorem sizeAbove_le (n : Nat) : SetTable.sizeAbove n ≤ max 8 (2 * n) := sizeAbove_go n 64 8
theorem laid_nil {mask finger moves : Nat} {led plain : Bool} : SetTable.laid mask finger moves led plain #[] = some ({ mask, place := #[], dummies := #[], finger, led, moves, plain }, #[]) := by
 have e : (List.range (mask + 1)).filterMap (fun j => ((Array.replicate (mask + 1) (none : Option Nat)).getD j none).map fun x => (j, x)) = [] := by
  rw [List.filterMap_eq_nil_iff]
  intro j hj
  have : (Array.replicate (mask + 1) (none : Option Nat)).getD j none = none := by
   simp [Array.getD]
  rw [this]; rfl
 unfold SetTable.laid SetTable.layClean
 simp only [Array.foldl_empty, Option.map_some]
 show some _ = _
 rw [e]
 rfl
section
variable {w : World} {A : Around} {E : Value → Shared → Prop} {s : Shared}
theorem isSet_not {v : Value} {T : String} {Q : Bool → Shared → Prop} (hT : s.TypeIs v T) (h1 : isSubtype (.type T) (.type "set") = pure false) (h2 : isSubtype (.type T) (.type "frozenset") = pure false) (h : Q false s) :
  wpAny (model P w) A (Builtin.Frozenset.isAnySet v) Q E s := by
 unfold Builtin.Frozenset.isAnySet
 unfold orM
 exact wpAny_bind (wpAny_isInstance hT h1 (wpAny_isInstance hT h2 h))
theorem addHashed {a : Addr} {l : List Int} {k : Int} {t : Tok} {Q : Bool → Shared → Prop} (hS : IntsAt w s.heap a l) (hroom : l.length + 1 < scanBound)
  (h : ∀ b h', Heap.SameBut a s.heap h' → IntsAt w h' a (addI l k) → Q b { s with heap := h' }) :
  wpAny (model P w) A (setAddHashed a (.int k t) ((IK w).hash k)) Q E s :=
 wpAny_setAddHashed_of (knd := IK w) (intKind_is _ _ _ _) rfl hS hroom fun h' hsb hS' => h _ h' hsb (SetOf_congr hS' (fun k' => (step_any l k k').symm ▸ rfl) (step_length l k).symm)
theorem isDict {v : Value} {T : String} {Q : Value → Shared → Prop} (hT : s.TypeIs v T) (h : Q (.type T) s) : wpAny (model P w) A (typeOf v) Q E s := wpAny_typeOf hT h
theorem roomFor0 {a : Addr} {more : Nat} {Q : Unit → Shared → Prop} (hS : IntsAt w s.heap a []) (hm : more ≤ 1000) (h : ∀ h', Heap.SameBut a s.heap h' → IntsAt w h' a [] → Q () { s with heap := h' }) :
  wpAny (model P w) A (setRoomFor a more) Q E s := by
 obtain ⟨o, es, ep, t, ho, hex, hd, hel, hmem, hb, hf, hn⟩ := id hS
 have he : es = #[] := by simpa using hn
 subst he
 unfold setRoomFor
 refine wpAny_bind (wpAny_setState_of ho hd hf ?_)
 dsimp only
 cases hr : t.roomFor more with
 | none =>
  have e : s = { s with heap := s.heap } := by cases s; rfl
  refine wpAny_pure ?_
  rw [e]
  exact h s.heap (Heap.SameBut.refl _ _) hS
 | some wanted =>
  have hw : wanted ≤ 2000 := by
   unfold SetTable.roomFor at hr
   split at hr
   ·have hpl : t.place.size = 0 := by
     simp only [SetTable.fits, Bool.and_eq_true, beq_iff_eq] at hf
     exact hf.1
    cases hr
    lia
   ·cases hr
  show wpAny _ _ (setRelay a wanted) Q E s
  unfold setRelay
  refine wpAny_bind (wpAny_setState_of ho hd hf ?_)
  dsimp only
  have hsz := sizeAbove_le wanted
  rw [if_neg (by rw [sizeLine_eq]; lia)]
  have hrel : t.relaid ((#[] : Array (Int × Value)).map (·.1)) wanted = some ({ mask := SetTable.sizeAbove wanted - 1, place := #[], dummies := #[], finger := t.finger, led := t.led, moves := t.movedTo (SetTable.sizeAbove wanted - 1), plain := t.plain }, #[]) := by
   unfold SetTable.relaid
   rw [Array.map_empty]
   exact laid_nil
  rw [hrel]
  refine wpAny_bind (wpAny_pure ?_)
  have hfit : ({ mask := SetTable.sizeAbove wanted - 1, place := #[], dummies := #[], finger := t.finger, led := t.led, moves := t.movedTo (SetTable.sizeAbove wanted - 1), plain := t.plain } : SetTable).fits (#[] : Array (Int × Value)).size = true := by
   simp [SetTable.fits, SetTable.fill]
  refine wpAny_storeSet_of (es' := #[]) ho hd ?_ (by rw [sizeLine_eq]; exact Nat.zero_le _)
  obtain ⟨_, hS'⟩ := SetOf_store (knd := IK w) (S' := fun k => ([] : List Int).any (· == k)) ho hex hd (es' := #[]) hel hmem (by decide) hfit
  exact h _ (Heap.SameBut.update _ a _) hS'
theorem addI_len (l : List Int) (v : Int) : (addI l v).length ≤ l.length + 1 := by
 unfold addI; split <;> simp
theorem addsI_len : ∀ (vs l : List Int), (addsI l vs).length ≤ l.length + vs.length
 | [], l => by simp [addsI]
 | v :: vs, l => by
  have h1 := addsI_len vs (addI l v)
  have h2 := addI_len l v
  show (addsI (addI l v) vs).length ≤ _
  rw [List.length_cons]; lia
theorem addsI_snoc (l vs : List Int) (v : Int) : addsI l (vs ++ [v]) = addI (addsI l vs) v := by simp [addsI]
theorem addsI_app (l vs vs' : List Int) : addsI l (vs ++ vs') = addsI (addsI l vs) vs' := by simp [addsI]
theorem update_dict {id : String} {S d : Addr} {kvs : List (Int × Value)} {Q : Unit → Shared → Prop} (hS : IntsAt w s.heap S []) (hd : s.heap.DictOf (IK w) d kvs) (hsys : (d == sysModules) = false) (hne : d ≠ S) (hlen : kvs.length ≤ 1000)
  (H : ∀ h', Heap.SameBut S s.heap h' → IntsAt w h' S (addsI [] (kvs.map (·.1))) → Q () { s with heap := h' }) :
  wpAny (model P w) A (Builtin.Frozenset.updateFrom id S (.ref d)) Q E s := by
 obtain ⟨o, es, ep, ho, hex, hdat, hk, hp, hn⟩ := hd
 have hsz : es.size = kvs.length := by rw [← Array.length_toList]; exact hp.length
 have hT : s.TypeIs (.ref d) "dict" := ⟨o, ho, hex.1⟩
 unfold Builtin.Frozenset.updateFrom
 refine wpAny_bind (isSet_not hT isSub_dict_set isSub_dict_frozenset ?_)
 rw [if_neg Bool.false_ne_true]
 refine wpAny_bind (wpAny_typeOf hT ?_)
 rw [if_pos (show (Value.type "dict" == Value.type "dict") = true by decide)]
 refine wpAny_bind (wpAny_rule ?_)
 refine wpAny_bind (m := Builtin.Frozenset.addrOf (.ref d)) (wpAny_pure ?_)
 rw [hsys]
 rw [if_neg Bool.false_ne_true]
 refine wpAny_bind (wpAny_dictEpoch ho hdat ?_)
 refine wpAny_bind (wpAny_dictEntries ho hdat ?_)
 refine wpAny_bind (roomFor0 hS (by lia) fun h₁ sb₁ hS₁ => ?_)
 have ho₁ : h₁.get? d = some o := (sb₁.2 d hne).trans ho
 refine wpAny_bind (wpAny_dictEntries (s := { s with heap := h₁ }) ho₁ hdat ?_)
 refine wpAny_bind ?_
 rw [Std.Legacy.Range.forIn_eq_forIn_range']
 simp only [Std.Legacy.Range.size, Nat.sub_zero, Nat.add_sub_cancel, Nat.div_one]
 refine wpAny_forIn_list _
  (fun rest _ s' => ∃ h' i, s' = { s with heap := h' } ∧ rest = List.range' i (es.size - i) ∧ i ≤ es.size ∧ IntsAt w h' S (addsI [] ((kvs.map (·.1)).take i)) ∧ Heap.SameBut S s.heap h')
  _ ?_ ?_ _ _ (exI2 h₁ 0 (anI5 rfl (by simp) (Nat.zero_le _) (by simpa [addsI] using hS₁) sb₁))
 ·intro x rest b s' zI
  (refine exE2 zI fun h' i zr2 => anE5 zr2 fun ze1 hr hi hS' sb' => ?_; clear zI zr2; subst ze1)
  have hlt : i < es.size := by
   rcases Nat.lt_or_ge i es.size with h | h
   ·exact h
   ·rw [Nat.sub_eq_zero_of_le h] at hr; simp at hr
  obtain ⟨rfl, hrest⟩ : x = i ∧ rest = List.range' (i + 1) (es.size - (i + 1)) := by
   have e : es.size - i = (es.size - (i + 1)) + 1 := by lia
   rw [e, List.range'_succ] at hr
   injection hr with h1 h2
   exact ⟨h1, h2⟩
  have ho' : h'.get? d = some o := (sb'.2 d hne).trans ho
  refine wpAny_bind (wpAny_dictEntries (s := { s with heap := h' }) ho' hdat ?_)
  rw [Array.getElem?_eq_getElem hlt]
  obtain ⟨kv, hkv⟩ : ∃ kv, kvs[x]? = some kv := ⟨kvs[x]'(by rw [← hsz]; exact hlt), List.getElem?_eq_getElem _⟩
  obtain ⟨k, v⟩ := kv
  obtain ⟨hkey, hval⟩ := hp.get? (e := es[x]) (by simp [hlt]) hkv
  obtain ⟨k', hkey', hhash⟩ := hk es[x] (Array.getElem_mem hlt)
  obtain rfl : k' = k := (IK w).inj _ _ _ hkey' hkey
  obtain ⟨tk, hke⟩ := Value.isInt_shape hkey
  show wpAny _ _ (holding [es[x].key] (setAddHashed S es[x].key es[x].hash) >>= _) _ _ _
  rw [hhash, hke]
  have hl : (addsI [] ((kvs.map (·.1)).take x)).length ≤ 1000 := by
   have := addsI_len ((kvs.map (·.1)).take x) []
   simp only [List.length_take, List.length_map, List.length_nil] at this
   lia
  refine wpAny_bind (wpAny_holding (addHashed (s := { s with heap := h' }) hS' (by unfold scanBound; lia) fun b' h'' sb'' hS'' => ?_))
  have ho'' : h''.get? d = some o := (sb''.2 d hne).trans ho'
  refine wpAny_bind (wpAny_dictEpoch (s := { s with heap := h'' }) ho'' hdat ?_)
  rw [if_neg (by simp)]
  refine wpAny_pure ⟨h'', x + 1, rfl, hrest, hlt, ?_, sb'.trans sb''⟩
  have e : (kvs.map (·.1)).take (x + 1) = (kvs.map (·.1)).take x ++ [k'] := by
   rw [List.take_add_one, List.getElem?_map, hkv]; rfl
  rw [e, addsI_snoc]
  exact hS''
 ·intro b s' zI
  (refine exE2 zI fun h' i zr4 => anE5 zr4 fun ze3 hr hi hS' sb' => ?_; clear zI zr4; subst ze3)
  have hin : i = es.size := by
   rcases Nat.lt_or_ge i es.size with h | h
   ·have e : es.size - i = (es.size - (i + 1)) + 1 := by lia
    rw [e, List.range'_succ] at hr; cases hr
   ·lia
  rw [hin, hsz, List.take_of_length_le (by simp)] at hS'
  exact wpAny_pure (H h' sb' hS')
theorem ints_loop {S I : Addr} {fp wr : List Addr} {n : Nat} {Pv : Nat → Value → Prop} {St : Nat → Heap → Prop} {R : Result → Shared → Prop} (W : Walks P w A.in1 I fp wr n Pv St) (hSf : S ∉ fp) (val : Nat → Int) (hval : ∀ i v, Pv i v → ∃ t, v = .int (val i) t) :
  ∀ (k i : Nat) (s : Shared) (l : List Int), n - i = k → i ≤ n → St i s.heap → IntsAt w s.heap S l → l.length + (n - i) ≤ 3000 →
   (∀ h' t', (∀ b o, b ≠ S → b ∉ wr → s.heap.get? b = some o → h'.get? b = some o) → IntsAt w h' S (addsI l ((List.range' i (n - i)).map val)) → R (.ok (.ret .none)) { s with heap := h', toks := t' }) →
   codeAny (model P w) A (.builtin "set.update.loop" ⟨[.ref S, .ref I], []⟩) R s := by
 have hSw : S ∉ wr := fun h => hSf (W.sub _ h)
 intro k
 induction k with
 | zero =>
  intro i s l hk hi hst hS hl H
  have hin : i = n := by lia
  subst hin
  refine codeAny_builtin F.entry_set_update_loop ?_
  rw [Around.under_plainId F.plain_set_update_loop _]
  show wpAny _ A.in1 (pyNext (.ref I) >>= _) _ _ s
  refine wpAny_bind (W.done s _ _ hst fun h' tk hm => ?_)
  show wpAny _ A.in1 (ret Value.none) _ _ _
  refine wpAny_pure (H h' tk (fun b o _ hb e => hm b o hb e) ?_)
  rw [Nat.sub_self]
  exact hS.at fun o e => hm S o hSw e
 | succ k ih =>
  intro i s l hk hi hst hS hl H
  have hlt : i < n := by lia
  refine codeAny_builtin F.entry_set_update_loop ?_
  rw [Around.under_plainId F.plain_set_update_loop _]
  show wpAny _ A.in1 (pyNext (.ref I) >>= _) _ _ s
  refine wpAny_bind (W.item i s _ _ hlt hst fun v h' tk hP hst' hm => ?_)
  obtain ⟨t, rfl⟩ := hval i v hP
  have hS' : IntsAt w h' S l := hS.at fun o e => hm S o hSw e
  show wpAny _ A.in1 (holding [Value.int (val i) t] (setAdd S (.int (val i) t)) >>= _) _ _ _
  refine wpAny_bind (wpAny_holding ?_)
  unfold setAdd
  refine wpAny_holding ?_
  refine wpAny_bind ((IK w).pyHash (k := val i) (intKind_is _ _ _ _) ?_)
  refine addHashed (s := { s with heap := h', toks := tk + 1 }) hS' (by unfold scanBound; lia) fun b h'' sb hS'' => ?_
  have hadd := addI_len l (val i)
  refine wpAny_pure ⟨plainId_quiet F.plain_set_update_loop _, ih (i + 1) _ (addI l (val i)) (by lia) hlt (W.frame _ _ _ hst' fun b hb o e => ?_) hS'' (by lia) fun h₃ t₃ hk₃ hS₃ => ?_⟩
  ·rw [sb.2 b (fun h : b = S => hSf (by rw [← h]; exact hb))]; exact e
  ·refine H h₃ t₃ (fun b o nb hb e => hk₃ b o nb hb ((sb.2 b nb).trans (hm b o hb e))) ?_
   have e : n - i = (n - (i + 1)) + 1 := by lia
   rw [e, List.range'_succ]
   exact hS₃
end
end
section
open PySem PySem.W PyProof.Rows
section
variable {w : World} {A : Around} {E : Value → Shared → Prop} {s : Shared}
theorem update_values {S a v : Addr} {l : List Int} {kvs : List (Str × Value)} {ep : Nat} {val : Nat → Int} {Q : Value → Shared → Prop} (hh : A.handled = none) (hS : IntsAt w s.heap S l) (hv : s.heap.IsValuesView v a) (hd : s.heap.DictAt (SK w) a kvs ep) (hne : S ≠ a)
  (hval : ∀ (i : Nat) k v', kvs[i]? = some (k, v') → ∃ t, v' = Value.int (val i) t) (hlen : l.length + kvs.length ≤ 3000)
  (H : ∀ h' t', (∀ b o, b ≠ S → s.heap.get? b = some o → h'.get? b = some o) → IntsAt w h' S (addsI l ((List.range kvs.length).map val)) → Q .none { s with heap := h', toks := t' }) :
  wpAny (model P w) A (call (.builtin "set.update") [.ref S, .ref v]) Q E s := by
 have hST : s.TypeIs (.ref S) "set" := hS.typeIs
 refine wpAny_call_entry PySem.F.slot_set_update hST PySem.F.entry_set_update ?_ (PySem.F.args_set_update_2 _ _)
 unfold Builtin.«set.update» Builtin.Frozenset.manyOthers
 simp only [List.isEmpty_nil, Bool.not_true, Bool.false_eq_true, if_false, bind_assoc]
 refine wpAny_bind (m := Builtin.Frozenset.addrOf (.ref S)) (wpAny_pure ?_)
 refine wpAny_bind (wpAny_pure ?_)
 dsimp only
 rw [List.forIn_cons]
 have hvT : s.TypeIs (.ref v) "dict_values" := hv.typeIs
 refine wpAny_bind (wpAny_bind (wpAny_bind ?_))
 unfold Builtin.Frozenset.updateFrom
 refine wpAny_bind (isSet_not hvT isSub_values_set isSub_values_frozenset ?_)
 rw [if_neg Bool.false_ne_true]
 refine wpAny_bind (wpAny_typeOf hvT ?_)
 rw [if_neg (show ¬ (Value.type "dict_values" == Value.type "dict") = true by decide)]
 refine wpAny_bind (wpAny_pyIter_values hv hd ?_)
 refine wpAny_bind (wpAny_runValue ?_)
 have ha : a ≠ s.heap.objs.size := Nat.ne_of_lt hd.lt_size
 have hSn : S ≠ s.heap.objs.size := by
  obtain ⟨o, _, _, _, ho, _⟩ := hS
  exact Nat.ne_of_lt (Heap.lt_size ho)
 refine ints_loop (Walks.dictValues (knd := SK w) (by exact hh) _ a ha kvs ep) (by simp [hSn, hne]) val (fun i v' ⟨k, e⟩ => hval i k v' e) kvs.length 0 _ l (Nat.sub_zero _) (Nat.zero_le _) ⟨⟨_, Heap.get?_push_size _ rfl, rfl, rfl⟩, hd.push _⟩ (hS.at fun o e => Heap.get?_push_of_some _ e) (by omega) fun h' t' hk hS' => ?_
 refine wpAny_pure (wpAny_pure (wpAny_pure (wpAny_pure ⟨_, rfl, H h' t' (fun b o nb e => hk b o nb ?_ (Heap.get?_push_of_some _ e)) ?_⟩)))
 ·simp only [List.mem_singleton]
  exact Nat.ne_of_lt (Heap.lt_size e)
 ·rw [Nat.sub_zero, ← List.range_eq_range'] at hS'
  exact hS'
end
end
section
open PySem PySem.W PyProof.Rows
section
variable {w : World} {A : Around} {E : Value → Shared → Prop} {s : Shared}
set_option maxHeartbeats 3200000 in
theorem call_set1 {x : Value} {Q : Value → Shared → Prop}
  (hU : ∀ led, ∀ A' : Around, A'.handled = A.handled → ∀ Q' : Unit → Shared → Prop, ∀ E', (∀ s', Q (.ref s.heap.objs.size) s' → Q' () s') →
   wpAny (model P w) A' (Builtin.Frozenset.updateFrom "set.__init__" s.heap.objs.size x) Q' E' { s with heap := s.heap.push { cls := .type "set", dict := none, data := .set #[] 0 (.fresh 0 0 led) } }) :
  wpAny (model P w) A (call (.type "set") [x]) Q E s := by
 refine exE2 F.called_set.mro fun c tl hmro => ?_
 have hmade := F.called_set.made
 have hsub := F.called_set.sub
 refine wpAny_call (codeAny_of_tree ?_)
 show wpAny _ _ (callAny (.type "set") _) _ _ _
 refine wpAny_pure ⟨Code.quiet_builtin _ (by decide +kernel), codeAny_builtin F.entry_type_call ?_⟩
 rw [Around.under_plain (weight_type_call_type "set" [x] []) rfl]
 have h1 := F.called_set.notType
 have h2 := F.called_set.canCreate
 have hct := F.typeCall_set_1 x
 repeat (any_goals (first | assumption | wp_step))
 refine codeAny_mono (code_set_new_1 x (E := E) (Q₁ := fun obj s₁ => ∃ led : Bool, obj = .ref s.heap.objs.size ∧ s₁ = { s with heap := s.heap.push { cls := .type "set", dict := none, data := .set #[] 0 (.fresh 0 0 led) } }) fun led => ⟨led, rfl, rfl⟩) fun r s₁ hr => ?_
 cases r with
 | error e => exact hr
 | ok fl =>
  cases fl with
  | ret obj =>
   obtain ⟨led, rfl, rfl⟩ := hr
   have hS : (s.heap.push { cls := .type "set", dict := none, data := .set #[] 0 (.fresh 0 0 led) }).get? s.heap.objs.size = some { cls := .type "set", dict := none, data := .set #[] 0 (.fresh 0 0 led) } := Heap.get?_push_size _ rfl
   have hT : Shared.TypeIs { s with heap := s.heap.push { cls := .type "set", dict := none, data := .set #[] 0 (.fresh 0 0 led) } } (.ref s.heap.objs.size) "set" := ⟨_, hS, rfl⟩
   have hli := F.called_set.init.lookup
   have hbi := F.called_set.init.bind (.ref s.heap.objs.size)
   repeat (any_goals (first | assumption | wp_step))
   refine codeAny_mono (codeAny_call_builtin (R := wants (fun r s₂ => r = .none ∧ Q (.ref s.heap.objs.size) s₂) E) F.called_set.init.plain F.entry_set_init (check_set_init_1 hT ?_)) fun r₂ s₂ hr₂ => ?_
   ·unfold Builtin.«set.__init__» noKeywords
    generalize hUF : Builtin.Frozenset.updateFrom = UF
    wp_walk
    subst hUF
    refine hU led _ (by rfl) _ _ fun s' hq => ?_
    show wpAny _ _ (ret Value.none) _ _ _
    exact wpAny_pure ⟨rfl, hq⟩
   ·cases r₂ with
    | error e => exact hr₂
    | ok fl₂ =>
     cases fl₂ with
     | ret r =>
      obtain ⟨rfl, hq⟩ := hr₂
      repeat (any_goals (first | assumption | wp_step))
     | _ => exact hr₂.elim
  | _ => exact hr.elim
theorem fresh_ints {led : Bool} {h : Heap} {a : Addr} (e : h.get? a = some { cls := .type "set", dict := none, data := .set #[] 0 (.fresh 0 0 led) }) : IntsAt w h a [] :=
 PyProof.Rows.SetOf_congr ((PyProof.Rows.setObjOf_fresh (knd := IK w) led).setOf e (by unfold scanBound; lia)) (fun _ => rfl) rfl
end
end
section
open PySem PySem.W PyProof.Rows
structure KF13 (K : Frag) : Prop extends KF12 K where
 mAll : Meth K 245 "all_states" "FSA.all_states" 63 62 (clsSt 4 3) .none
noncomputable abbrev eAll (L : Addr) : Env := envOf "FSA.all_states" (fnOfSt (clsSt 4 3)).scope L 63 (.ref 62)
theorem TabAre.keys {w : World} {h : Heap} {kvs tr} (x : TabAre w h kvs tr) : kvs.map (·.1) = tr.map (·.1) := by
 induction x with
 | nil => rfl
 | cons _ _ _ ih => simp [ih]
theorem TabAre.get {w : World} {h : Heap} {kvs tr} (x : TabAre w h kvs tr) : ∀ (i : Nat) q v, kvs[i]? = some (q, v) → ∃ a l, v = .ref a ∧ tr[i]? = some (q, l) ∧ ArcsAt w h a l ∧ (a == sysModules) = false := by
 induction x with
 | nil => intro i q v e; simp at e
 | cons h1 h2 _ ih =>
  intro i q v e
  cases i with
  | zero => simp at e; obtain ⟨rfl, rfl⟩ := e; exact (exI2 _ _ (anI4 rfl rfl h1 h2))
  | succ i => simpa using ih i q v (by simpa using e)
theorem ArcsAre.vals {kvs l} (h : ArcsAre kvs l) : ∀ (i : Nat) k v, kvs[i]? = some (k, v) → ∃ t, v = Value.int ((l.map (·.2)).getD i 0) t := by
 induction h with
 | nil => intro i k v e; simp at e
 | @cons c j t kvs l _ ih =>
  intro i k v e
  cases i with
  | zero => simp at e; exact ⟨t, e.2.symm⟩
  | succ i => simpa using ih i k v (by simpa using e)
theorem range_getDI (l : List Int) : (List.range l.length).map (fun i => l.getD i 0) = l := by
 apply List.ext_getElem
 ·simp
 ·intro i h1 h2
  simp [List.getD, h2]
noncomputable def SetE (w : World) (S : Addr) (l : List Int) : Ent := (S, fun h => IntsAt w h S l)
noncomputable def rowVals (l : List (Int × List (Nat × Int))) : List Int := l.flatMap fun x => x.2.map (·.2)
section
variable {w : World} {A : Around} {E : Value → Shared → Prop} {R : Result → Shared → Prop} {K : Frag} {mg mb : Str → Option Value} {gs : Array GenState} {dr : Drawn} {os : OsState}
 {g h : Heap} {t : Tok} {d dx T Df F U : Addr} {D : Dfa}
theorem all_states_spec (kf : KF13 K) (gh : Keep g h) (B : Base w K mg mb g) (hroom : A.depth < recursionLimit) (hh : A.handled = none) (I : DfaAt w g d dx T Df F U D) (hz : D.tr.length + (rowVals D.tr).length ≤ 1000)
  (H : ∀ g' h' t' a, Ext RO g h g' h' → IntsAt w g' a D.states → R (.ok (.ret (.ref a))) ⟨h', gs, dr, t', os⟩) :
  codeAny (model P w) A (.call (.ref 63) ⟨[.ref d], []⟩) R ⟨h, gs, dr, t, os⟩ := by
 refine exE2 I.inst fun td n I₀ => ?_
 obtain ⟨kvT, hT, hA⟩ := I.tab
 have hkl : kvT.length = D.tr.length := by have := congrArg List.length hA.keys; simpa using this
 refine enter RO [] .nil (fun _ m => absurd m List.not_mem_nil) (binds := [("self", .ref d)]) gh B.X B.lim kf.mAll.fn hroom (fun pm => .of_eq (by with_unfolding_all rfl)) (by rfl) (fun h₁ L t₁ C _ => ?_) (by rfl) (by rfl) (by rfl) (by decide +kernel)
 have p1 := kf.pg "transitions" (by decide)
 have hne : ∀ (h : Heap), Keep g h → T ≠ h.objs.size := fun h k => by
  obtain ⟨o, _, _, ho, _⟩ := hT
  exact Nat.ne_of_lt (Heap.lt_size (k _ _ ho))
 refine wpAny_execs_cons (assignL (callT1 C.X.gh B (kf.bn "set" (by decide)) bt_set (by decide) (attrN C (by rfl) (attr_own C.X.gh B.X I₀ p1.1 kf.hh p1.2 (by rfl) rfl fun t₂ => ?_))))
 refine call_set1 (s := ⟨h₁, gs, dr, t₂, os⟩) fun led A' _ Q' E' hQ' => ?_
 have hat : (h₁.push { cls := .type "set", dict := none, data := .set #[] 0 (.fresh 0 0 led) }).get? h₁.objs.size = some { cls := .type "set", dict := none, data := .set #[] 0 (.fresh 0 0 led) } := Heap.get?_push_size _ rfl
 have kp := Keep.push h₁ { cls := .type "set", dict := none, data := .set #[] 0 (.fresh 0 0 led) }
 refine update_dict (s := ⟨h₁.push _, gs, dr, t₂, os⟩) (kvs := kvT) (fresh_ints hat) ((hT.keep C.X.gh).keep kp) I.sys.1 (hne h₁ C.X.gh) (by omega) fun h₂ sb hS => hQ' _ ?_
 obtain ⟨C₁, nw⟩ := C.alloc (o := { cls := .type "set", dict := none, data := .set #[] 0 (.fresh 0 0 led) }) (Pr := fun _ => True) rfl fun _ _ _ => trivial
 have C₂ : Cur RO g h L g h₂ (fun y => ([("self", Value.ref d)] : List (Str × Value)).reverse.lookup y) [SetE w h₁.objs.size (addsI [] (D.tr.map (·.1)))] := by
  rw [← hA.keys]
  have hE : EntAt g h₂ (SetE w h₁.objs.size (addsI [] (kvT.map (·.1)))) := by
   obtain ⟨o, es, ep, tt, ho, r⟩ := hS
   exact EntAt.ex ho fun h'' e => ⟨o, es, ep, tt, e, r⟩
  exact C₁.upd (l := []) (r := []) sb hE
 refine storeL C₂ fun h₃ t₃ C₃ _ => ?_
 refine wpAny_execs_cons (wpAny_For (bmeth0_ (attrN C₃ (oth rfl) (attr_own C₃.X.gh B.X I₀ p1.1 kf.hh p1.2 (by rfl) rfl fun t₄ => ?_))))
 have hT₃ := hT.keep C₃.X.gh
 refine (exI2 ("dict") ("dict.items") (anI6 PySem.F.plainAttrs_dict PySem.F.slot_dict_items PySem.F.type_dict_items hT₃.typeIs hT₃.mapOf.noDict ?_))
 refine call_meetsIn (s := ⟨h₃, gs, dr, t₄, os⟩) PySem.F.slot_dict_items hT₃.typeIs PySem.F.entry_dict_items (PySem.F.args_dict_items_1 _) (meets_dict_items (IK w) T I.sys.1) ⟨⟨kvT, hT₃⟩, ?_⟩
 (refine Exists.elim (C₃.kept (Keep.push h₃ { cls := .type "dict_items", data := .fields #[.ref T] })) fun g₄ zr1 => anE3 zr1 fun C₄ kg₄ _ => ?_; clear zr1)
 have hv : (h₃.push { cls := .type "dict_items", data := .fields #[.ref T] }).IsItemsView h₃.objs.size T := ⟨_, Heap.get?_push_size _ rfl, rfl, rfl⟩
 refine forItems (A := A.deeper (eAll L)) (knd := IK w) hh C₄ hv (hT.keep kg₄) (by omega) fun it h₅ fe St C₅ FP => ?_
 refine forLoop (FP.feed "src" _ "trans" _ _ _ (by rfl) (by rfl)) (fun i g' m' ow => ow = [SetE w h₁.objs.size (addsI (addsI [] (D.tr.map (·.1))) (rowVals (D.tr.take i)))] ∧ m' "stateset" = some (.ref h₁.objs.size)) C₅ rfl FP.new FP.st
  ⟨by simp [rowVals, addsI], sam⟩ (fun i g₆ h₆ m₁ m₆ ow fe₆ t₆ hi k₆ hj hp C₆ => ?_) (fun g₆ h₆ m₆ ow t₆ k₆ hj C₆ => ?_)
 ·refine opaqueQ fun Qb Eb hQb _ => ?_
  obtain ⟨rfl, hst⟩ := hj
  (refine exE2 hp fun qv av zr4 => anE2 zr4 fun zo2 ze3 => ?_; clear hp zr4; obtain ⟨q, hki, hkk⟩ := zo2; subst ze3)
  (refine exE2 (hA.get i q av hki) fun a l zr6 => anE4 zr6 fun ze5 htr harc hsys => ?_; clear zr6; subst ze5)
  obtain ⟨ks, hd, hk⟩ := ((harc.keeps kg₄).keeps k₆).keeps C₆.X.gh
  obtain ⟨ep, hdat⟩ := hd.dictAt
  have hlen : ks.length = l.length := hk.length
  have hS₆ : IntsAt w h₆ h₁.objs.size (addsI (addsI [] (D.tr.map (·.1))) (rowVals (D.tr.take i))) := C₆.get (SetE w h₁.objs.size _) (memR mem0)
  have hS₆' := hS₆
  unfold IntsAt at hS₆'
  have hsum : (rowVals (D.tr.take (i + 1))) = rowVals (D.tr.take i) ++ l.map (·.2) := by
   rw [List.take_add_one, htr]; simp [rowVals]
  have hle : (rowVals (D.tr.take (i + 1))).length ≤ (rowVals D.tr).length := by
   conv => rhs; rw [← List.take_append_drop (i + 1) D.tr]
   simp only [rowVals, List.flatMap_append, List.length_append]
   omega
  rw [hsum, List.length_append, List.length_map] at hle
  refine wpAny_execs_cons (wpAny_Expr (bmeth1_ (nameL C₆ (oth (oth hst)) (exI2 ("set") ("set.update") (anI6 PySem.F.plainAttrs_set PySem.F.slot_set_update PySem.F.type_set_update hS₆'.typeIs hS₆'.noDict (bmeth0_ (nameL C₆ sam ?_)))))))
  refine (exI2 ("dict") ("dict.values") (anI6 PySem.F.plainAttrs_dict PySem.F.slot_dict_values PySem.F.type_dict_values hd.typeIs hd.mapOf.noDict ?_))
  refine call_meetsIn (s := ⟨h₆, gs, dr, t₆, os⟩) PySem.F.slot_dict_values hd.typeIs PySem.F.entry_dict_values (PySem.F.args_dict_values_1 _) (meets_dict_values (SK w) a hsys) ⟨⟨ks, hd⟩, ?_⟩
  have kp₆ := Keep.push h₆ { cls := .type "dict_values", data := .fields #[.ref a] }
  have hnea : h₁.objs.size ≠ a := fun z => by
   have hag : g.get? a ≠ none := by
    obtain ⟨ks', hd', _⟩ := harc
    obtain ⟨o, _, _, ho, _⟩ := hd'
    rw [ho]; exact Option.some_ne_none _
   rw [← z] at hag
   cases q : g.get? h₁.objs.size with
   | none => exact hag q
   | some o => exact absurd (C.X.gh _ _ (C.X.gg _ _ q)) (by rw [size_none]; exact fun z => by cases z)
  have l1 := addsI_len (D.tr.map (·.1)) []
  have l2 := addsI_len (rowVals (D.tr.take i)) (addsI [] (D.tr.map (·.1)))
  simp only [List.length_map, List.length_nil] at l1
  refine update_values (s := ⟨h₆.push _, gs, dr, t₆, os⟩) (A := A.deeper (eAll L)) (val := fun j => (l.map (·.2)).getD j 0) hh (hS₆.at fun o e => kp₆ _ o e) ⟨_, Heap.get?_push_size _ rfl, rfl, rfl⟩ (hdat.at fun o e => kp₆ _ o e) hnea (fun j k v' e => hk.vals j k v' e) (by omega) fun h₇ t₇ k₇ hS₇ => ?_
  rw [hlen, ← List.length_map (f := fun x : Nat × Int => x.2), range_getDI, ← addsI_app, ← hsum] at hS₇
  have hoff := C₆.O.off (SetE w h₁.objs.size (addsI (addsI [] (D.tr.map (·.1))) (rowVals (D.tr.take i)))) (memR mem0)
  have hE₇ : EntAt g₆ h₇ (SetE w h₁.objs.size (addsI (addsI [] (D.tr.map (·.1))) (rowVals (D.tr.take (i + 1))))) := by
   obtain ⟨o, es, ep, tt, ho, r⟩ := hS₇
   exact EntAt.ex ho fun h'' e => ⟨o, es, ep, tt, e, r⟩
  have x₇ : Ext (fun b => b = h₁.objs.size) g₆ h₆ g₆ h₇ := ⟨Keep.refl _, fun b o e => k₇ b o (fun z => by rw [z] at e; exact absurd (e.symm.trans hoff) (fun y => by cases y)) (kp₆ b o (C₆.X.gh b o e)), fun b o nb e => k₇ b o nb (kp₆ b o e), fun b e => by
   by_cases z : b = h₁.objs.size
   ·rw [z]; exact hE₇.live
   ·cases q : h₆.get? b with
    | none => exact absurd q e
    | some o => rw [k₇ b o z (kp₆ b o q)]; exact Option.some_ne_none _, fun b e n => absurd n e⟩
  have C₇ := C₆.call x₇ (fun b z => ⟨_, List.mem_singleton.mpr rfl, z.symm⟩) (oc' := [SetE w h₁.objs.size (addsI (addsI [] (D.tr.map (·.1))) (rowVals (D.tr.take (i + 1))))]) ⟨fun e me => by rw [List.mem_singleton.mp me]; exact hE₇, List.nodup_cons.mpr ⟨List.not_mem_nil, List.nodup_nil⟩, fun e me => by rw [List.mem_singleton.mp me]; exact hoff⟩ fun e me => .inl ⟨_, List.mem_singleton.mpr rfl, by rw [List.mem_singleton.mp me]; rfl⟩
  exact wpAny_execs_nil (hQb _ _ ⟨g₆, h₇, _, _, t₇, rfl, Keep.refl _, C₇, rfl, oth (oth hst)⟩)
 ·refine opaqueQ fun Qf Ef hQf _ => ?_
  obtain ⟨rfl, hst⟩ := hj
  refine wpAny_execs_nil (hQf _ _ ?_)
  (refine Exists.elim (C₆.freeze (l := []) (r := [])) fun g₇ zr7 => anE4 zr7 fun C₇ kg₇ hS₇ _ => ?_; clear zr7)
  refine wpAny_execs_cons (wpAny_Return_some (nameL C₇ hst ?_))
  refine H g₇ h₆ _ _ C₇.X ?_
  rw [hkl, List.take_length] at hS₇
  exact hS₇
end
end
section
noncomputable def der (R : List (List Nat)) (c : Nat) : List (List Nat) := R.filterMap fun w => match w with
 | [] => none
 | a :: u => if a = c then some u else none
noncomputable def resid (R : List (List Nat)) (p : List Nat) : List (List Nat) := p.foldl der R
theorem der_nil (c : Nat) : der [] c = [] := rfl
theorem der_app (A B : List (List Nat)) (c : Nat) : der (A ++ B) c = der A c ++ der B c := List.filterMap_append
theorem der_same (R : List (List Nat)) (c : Nat) : der (R.map (c :: ·)) c = R := by
 induction R with
 | nil => rfl
 | cons u R ih => simpa [der] using ih
theorem der_other (R : List (List Nat)) {a c : Nat} (h : a ≠ c) : der (R.map (a :: ·)) c = [] := by
 induction R with
 | nil => rfl
 | cons u R ih => simpa [der, h] using ih
theorem der_mem {R : List (List Nat)} {c : Nat} {u : List Nat} : u ∈ der R c ↔ c :: u ∈ R := by
 unfold der
 rw [List.mem_filterMap]
 constructor
 ·rintro ⟨w, hw, e⟩
  cases w with
  | nil => cases e
  | cons a v =>
   by_cases h : a = c
   ·subst h; simp at e; subst e; exact hw
   ·simp [h] at e
 ·intro h
  exact ⟨_, h, by simp⟩
theorem resid_mem {p : List Nat} : ∀ {R : List (List Nat)} {u : List Nat}, u ∈ resid R p ↔ p ++ u ∈ R := by
 induction p with
 | nil => intro R u; exact Iff.rfl
 | cons c p ih =>
  intro R u
  show u ∈ resid (der R c) p ↔ _
  rw [ih, der_mem]; exact Iff.rfl
theorem resid_none (p : List Nat) : resid [] p = [] := by
 induction p with
 | nil => rfl
 | cons c p ih => exact ih
theorem resid_law (p : List Nat) : ∀ (R : List (List Nat)), (R.filter fun w => w.take p.length == p).map (·.drop p.length) = resid R p := by
 induction p with
 | nil =>
  intro R
  have : (R.filter fun w => w.take ([] : List Nat).length == []) = R := by
   rw [List.filter_eq_self]; intro a _; simp
  rw [this]
  show R.map (fun w => w.drop 0) = R
  simp
 | cons c p ih =>
  intro R
  show _ = resid (der R c) p
  rw [← ih]
  induction R with
  | nil => rfl
  | cons w R ihR =>
   cases w with
   | nil =>
    have e : der ([] :: R) c = der R c := rfl
    rw [e, ← ihR]
    simp
   | cons a u =>
    by_cases h : a = c
    ·subst h
     have e : der ((a :: u) :: R) a = u :: der R a := by simp [der]
     rw [e]
     by_cases h2 : u.take p.length = p
     ·have h3 : ((a :: u).take (a :: p).length == a :: p) = true := by simp [h2]
      have h4 : (u.take p.length == p) = true := by simp [h2]
      rw [List.filter_cons, List.filter_cons, if_pos h3, if_pos h4, List.map_cons, List.map_cons, ihR]
      rfl
     ·have h3 : ¬ ((a :: u).take (a :: p).length == a :: p) = true := by simp [h2]
      have h4 : ¬ (u.take p.length == p) = true := by simp [h2]
      rw [List.filter_cons, List.filter_cons, if_neg h3, if_neg h4, ihR]
    ·have e : der ((a :: u) :: R) c = der R c := by simp [der, h]
     have h3 : ¬ ((a :: u).take (c :: p).length == c :: p) = true := by simp [h]
     rw [e, List.filter_cons, if_neg h3, ihR]
noncomputable abbrev Reg := List ((List (Nat × Int) × Bool) × Int)
noncomputable def eps (f : Bool) : List (List Nat) := if f then [[]] else []
inductive Den (S : Reg) : List (Nat × Int) → List (List Nat) → Prop
 | nil : Den S [] []
 | cons {c : Nat} {j : Int} {l rest : List (Nat × Int)} {f : Bool} {B A : List (List Nat)} : ((l, f), j) ∈ S → Den S l B → eps f ++ B ≠ [] → Den S rest A → Den S ((c, j) :: rest) ((eps f ++ B).map (c :: ·) ++ A)
noncomputable def Lang (S : Reg) (i : Int) (R : List (List Nat)) : Prop := ∃ l f B, ((l, f), i) ∈ S ∧ Den S l B ∧ R = eps f ++ B ∧ R ≠ []
theorem Den.mono {S S' : Reg} {l A} (h : Den S l A) (s : ∀ e ∈ S, e ∈ S') : Den S' l A := by
 induction h with
 | nil => exact .nil
 | cons a _ c _ ih1 ih2 => exact .cons (s _ a) ih1 c ih2
theorem Lang.mono {S S' : Reg} {i R} (h : Lang S i R) (s : ∀ e ∈ S, e ∈ S') : Lang S' i R := by obtain ⟨l, f, B, a, b, c⟩ := h; exact ⟨l, f, B, s _ a, b.mono s, c⟩
theorem Den.snoc {S : Reg} {l A} (h : Den S l A) {c : Nat} {j : Int} {R : List (List Nat)} (g : Lang S j R) : Den S (l ++ [(c, j)]) (A ++ R.map (c :: ·)) := by
 induction h with
 | nil =>
  obtain ⟨l, f, B, a, b, rfl, n⟩ := g
  have := Den.cons (c := c) a b n .nil
  simpa using this
 | cons a b n _ _ ih =>
  rw [List.append_assoc]
  exact .cons a b n ih
theorem Den.length {S : Reg} {l A} (h : Den S l A) : l.length ≤ A.length := by
 induction h with
 | nil => exact Nat.le_refl _
 | @cons c j l rest f B A _ _ n _ _ ih =>
  have : 0 < (eps f ++ B).length := List.length_pos_iff.mpr n
  simp only [List.length_cons, List.length_append, List.length_map] at *
  lia
theorem Den.noNil {S : Reg} {l A} (h : Den S l A) : [] ∉ A := by
 induction h with
 | nil => exact List.not_mem_nil
 | cons _ _ _ _ _ ih => simp [ih]
theorem eps_inj {f f' : Bool} {B B' : List (List Nat)} (h : eps f ++ B = eps f' ++ B') (n : [] ∉ B) (n' : [] ∉ B') : f = f' ∧ B = B' := by
 cases f <;> cases f' <;> simp [eps] at h
 ·exact ⟨rfl, h⟩
 ·exact absurd (h ▸ mem0) n
 ·exact absurd (h ▸ mem0) n'
 ·exact ⟨rfl, h⟩
structure Reg.Ok (S : Reg) : Prop where
 key : ∀ k i j, (k, i) ∈ S → (k, j) ∈ S → i = j
 num : ∀ k k' i, (k, i) ∈ S → (k', i) ∈ S → k = k'
 up : ∀ e ∈ S, upL e.1.1
theorem upL.tail {x : Nat × Int} {l : List (Nat × Int)} (h : upL (x :: l)) : upL l := (List.pairwise_cons.mp h).2
theorem upL.head {x : Nat × Int} {l : List (Nat × Int)} (h : upL (x :: l)) : ∀ y ∈ l, x.1 < y.1 := fun y my => (List.pairwise_cons.mp h).1 y.1 (List.mem_map_of_mem my)
theorem Den.func {S : Reg} (ok : S.Ok) {l A} (h : Den S l A) : ∀ {A'}, Den S l A' → A = A' := by
 induction h with
 | nil => intro A' h'; cases h'; rfl
 | @cons c j l rest f B A a _ _ _ ih1 ih2 =>
  intro A' h'
  cases h' with
  | @cons _ _ l' _ f' B' A'' a' b' _ d' =>
   obtain ⟨rfl, rfl⟩ : l = l' ∧ f = f' := by
    have := ok.num _ _ _ a a'
    exact ⟨congrArg Prod.fst this, congrArg Prod.snd this⟩
   rw [ih1 b', ih2 d']
theorem Lang.func {S : Reg} (ok : S.Ok) {i R R'} (h : Lang S i R) (h' : Lang S i R') : R = R' := by
 obtain ⟨l, f, B, a, b, rfl, _⟩ := h
 obtain ⟨l', f', B', a', b', rfl, _⟩ := h'
 obtain ⟨rfl, rfl⟩ : l = l' ∧ f = f' := by
  have := ok.num _ _ _ a a'
  exact ⟨congrArg Prod.fst this, congrArg Prod.snd this⟩
 rw [b.func ok b']
theorem Den.heads {S : Reg} {l A} (h : Den S l A) : ∀ w ∈ A, ∃ x ∈ l, ∃ u, w = x.1 :: u := by
 induction h with
 | nil => intro w m; exact absurd m List.not_mem_nil
 | @cons c j l rest f B A a _ _ _ _ ih =>
  intro w m
  rcases List.mem_append.mp m with m | m
  ·obtain ⟨u, _, rfl⟩ := List.mem_map.mp m
   exact ⟨_, mem0, u, rfl⟩
  ·obtain ⟨x, mx, u, e⟩ := ih w m
   exact ⟨x, List.mem_cons_of_mem _ mx, u, e⟩
theorem der_later {S : Reg} {l A} (h : Den S l A) {c : Nat} (hc : ∀ x ∈ l, c < x.1) : der A c = [] := by
 unfold der
 rw [List.filterMap_eq_nil_iff]
 intro w hw
 obtain ⟨x, mx, u, rfl⟩ := h.heads w hw
 have := hc x mx
 simp; lia
theorem Den.der {S : Reg} {l A} (h : Den S l A) (u : upL l) (c : Nat) : (∃ j, l.lookup c = some j ∧ Lang S j (Mine.der A c)) ∨ (l.lookup c = none ∧ Mine.der A c = []) := by
 induction h with
 | nil => exact .inr ⟨rfl, rfl⟩
 | @cons a j l rest f B A hm hd n hr _ ih =>
  by_cases e : c = a
  ·subst e
   refine .inl ⟨j, by simp [List.lookup], ?_⟩
   rw [der_app, der_same, der_later hr fun x mx => u.head x mx, List.append_nil]
   exact ⟨l, f, B, hm, hd, rfl, n⟩
  ·rw [der_app, der_other _ (fun z => e z.symm), List.nil_append, List.lookup_cons, beq_false_of_ne e]
   exact ih u.tail
noncomputable def wsum (A : List (List Nat)) : Nat := (A.map fun w => w.length + 1).sum
theorem wsum_app (A B : List (List Nat)) : wsum (A ++ B) = wsum A + wsum B := by simp [wsum]
theorem wsum_map (A : List (List Nat)) (c : Nat) : wsum (A.map (c :: ·)) = wsum A + A.length := by
 induction A with
 | nil => rfl
 | cons w A ih => simp only [wsum, List.map_cons, List.sum_cons, List.length_cons] at *; lia
theorem Den.inj {S : Reg} (ok : S.Ok) : ∀ (n : Nat) {l l' A}, wsum A ≤ n → upL l → upL l' → Den S l A → Den S l' A → l = l' := by
 intro n
 induction n with
 | zero =>
  intro l l' A hn _ _ h h'
  have hA : A = [] := by
   cases A with
   | nil => rfl
   | cons w A => simp [wsum] at hn
  subst hA
  have h1 := h.length
  have h2 := h'.length
  rw [List.length_eq_zero_iff.mp (Nat.le_zero.mp h1), List.length_eq_zero_iff.mp (Nat.le_zero.mp h2)]
 | succ n ih =>
  intro l l' A hn u u' h h'
  cases h with
  | nil =>
   have h2 := h'.length
   rw [List.length_eq_zero_iff.mp (Nat.le_zero.mp h2)]
  | @cons c j l rest f B A hm hd hne hr =>
   generalize hE : (eps f ++ B).map (c :: ·) ++ A = E at h' hn
   cases h' with
   | nil =>
    have : (eps f ++ B).map (c :: ·) = [] := (List.append_eq_nil_iff.mp hE).1
    exact absurd (List.map_eq_nil_iff.mp this) hne
   | @cons c' j' l' rest' f' B' A' hm' hd' hne' hr' =>
    have hcc : c = c' := by
     refine exE2 (List.exists_cons_of_ne_nil hne) fun x X hx => ?_
     refine exE2 (List.exists_cons_of_ne_nil hne') fun y Y hy => ?_
     rw [hx, hy] at hE
     simp only [List.map_cons, List.cons_append, List.cons.injEq] at hE
     exact hE.1.1
    subst hcc
    have hR : eps f ++ B = eps f' ++ B' := by
     have := congrArg (fun X => Mine.der X c) hE
     simp only [der_app, der_same] at this
     rwa [der_later hr fun x mx => u.head x mx, der_later hr' fun x mx => u'.head x mx, List.append_nil, List.append_nil] at this
    have hA : A = A' := by
     rw [hR] at hE
     exact List.append_cancel_left hE
    obtain ⟨rfl, hB⟩ := eps_inj hR hd.noNil hd'.noNil
    subst hB; subst hA
    rw [wsum_app, wsum_map, wsum_app] at hn
    have hp : 0 < (eps f ++ B).length := List.length_pos_iff.mpr hne
    have hl : l = l' := ih (by lia) (ok.up _ hm) (ok.up _ hm') hd hd'
    subst hl
    have hj : j = j' := ok.key _ _ _ hm hm'
    subst hj
    rw [ih (by lia) u.tail u'.tail hr hr']
theorem Lang.inj {S : Reg} (ok : S.Ok) {i j R} (h : Lang S i R) (h' : Lang S j R) : i = j := by
 obtain ⟨l, f, B, a, b, e, _⟩ := h
 obtain ⟨l', f', B', a', b', e', _⟩ := h'
 obtain ⟨rfl, rfl⟩ := eps_inj (e.symm.trans e') b.noNil b'.noNil
 have := b.inj ok _ (Nat.le_refl _) (ok.up _ a) (ok.up _ a') b'
 subst this
 exact ok.key _ _ _ a a'
end
section
noncomputable def Reg.tr (S : Reg) : List (Int × List (Nat × Int)) := (S.filter fun e => !e.1.1.isEmpty).map fun e => (e.2, e.1.1)
noncomputable def Reg.fin (S : Reg) : List Int := (S.filter fun e => e.1.2).map fun e => e.2
noncomputable def Reg.dfa (S : Reg) : Dfa := ⟨S.tr, fun q => decide (∃ i ∈ S.fin, q = some i)⟩
structure Reg.Done (S : Reg) (W : List (List Nat)) (M : Nat) : Prop where
 ok : S.Ok
 nd : (S.map (·.2)).Nodup
 small : ∀ e ∈ S, e.1.1.length < 64
 all : ∀ e ∈ S, ∃ R, Lang S e.2 R
 root : Lang S 0 W
 sub : ∀ i R, Lang S i R → ∃ p, ∀ u ∈ R, p ++ u ∈ W
 tgt : ∀ e ∈ S, e.2 = 0 ∨ ∃ e' ∈ S, ∃ c, (c, e.2) ∈ e'.1.1
 max : ∀ w ∈ W, w.length ≤ M
theorem lookup_tr {S : Reg} (nd : (S.map (·.2)).Nodup) {l : List (Nat × Int)} {f : Bool} {i : Int} (h : ((l, f), i) ∈ S) : (S.tr.lookup i).getD [] = l := by
 induction S with
 | nil => exact absurd h List.not_mem_nil
 | cons e S ih =>
  rw [List.map_cons, List.nodup_cons] at nd
  rcases List.mem_cons.mp h with rfl | h'
  ·cases l with
   | nil =>
    have : Reg.tr ((([], f), i) :: S) = Reg.tr S := rfl
    rw [this]
    have hn : (Reg.tr S).lookup i = none := by
     rw [List.lookup_eq_none_iff]
     intro x hx
     obtain ⟨e, he, rfl⟩ := List.mem_map.mp hx
     have : e.2 ∈ S.map (·.2) := List.mem_map_of_mem (List.mem_filter.mp he).1
     exact bne_iff_ne.mpr fun z => nd.1 (by rw [show (i : Int) = e.2 from z]; exact this)
    rw [hn]; rfl
   | cons a l =>
    have : Reg.tr (((a :: l, f), i) :: S) = (i, a :: l) :: Reg.tr S := rfl
    rw [this]; simp [List.lookup]
  ·have hne : i ≠ e.2 := by
    intro z
    exact nd.1 (List.mem_map.mpr ⟨_, h', z⟩)
   obtain ⟨⟨l', f'⟩, i'⟩ := e
   cases l' with
   | nil => exact ih nd.2 h'
   | cons a l' =>
    have : Reg.tr (((a :: l', f'), i') :: S) = (i', a :: l') :: Reg.tr S := rfl
    rw [this, List.lookup_cons, beq_false_of_ne hne]
    exact ih nd.2 h'
theorem lookup_tr_none {S : Reg} {q : Int} (h : ∀ e ∈ S, e.2 ≠ q) : S.tr.lookup q = none := by
 rw [List.lookup_eq_none_iff]
 intro x hx
 obtain ⟨e, he, rfl⟩ := List.mem_map.mp hx
 exact bne_iff_ne.mpr fun z => h e (List.mem_filter.mp he).1 (Eq.symm z)
section
variable {S : Reg} {W : List (List Nat)} {M : Nat}
theorem Reg.Done.arcs (d : S.Done W M) {l f i} (h : ((l, f), i) ∈ S) : S.dfa.arcs i = l := lookup_tr d.nd h
theorem Reg.Done.finI (d : S.Done W M) {l f i} (h : ((l, f), i) ∈ S) : S.dfa.fin (some i) = f := by
 show decide (∃ j ∈ S.fin, some i = some j) = f
 cases f with
 | true =>
  exact decide_eq_true ⟨i, List.mem_map.mpr ⟨_, List.mem_filter.mpr ⟨h, rfl⟩, rfl⟩, rfl⟩
 | false =>
  refine decide_eq_false ?_
  rintro ⟨j, hj, e⟩
  cases e
  obtain ⟨⟨⟨l', f'⟩, i'⟩, he, rfl⟩ := List.mem_map.mp hj
  obtain ⟨h1, h2⟩ := List.mem_filter.mp he
  have := d.ok.num _ _ _ h h1
  simp only [Prod.mk.injEq] at this
  rw [← this.2] at h2
  cases h2
theorem Reg.finN : S.dfa.fin none = false := by
 show decide (∃ j ∈ S.fin, none = some j) = false
 exact decide_eq_false fun ⟨_, _, e⟩ => nomatch e
theorem Lang.fin (d : S.Done W M) {i R} (h : Lang S i R) : (S.dfa.fin (some i) = true ↔ [] ∈ R) := by
 obtain ⟨l, f, B, a, b, rfl, _⟩ := h
 rw [d.finI a]
 cases f with
 | true => simp [eps]
 | false => simpa [eps] using b.noNil
theorem Lang.next (d : S.Done W M) {i R} (h : Lang S i R) (c : Nat) : (∃ j, S.dfa.next i c = some j ∧ Lang S j (der R c)) ∨ (S.dfa.next i c = none ∧ der R c = []) := by
 obtain ⟨l, f, B, a, b, rfl, _⟩ := h
 rw [Dfa.next_arcs, d.arcs a]
 have e : der (eps f ++ B) c = der B c := by
  rw [der_app]
  cases f <;> rfl
 rw [e]
 exact b.der (d.ok.up _ a) c
theorem Lang.run (d : S.Done W M) : ∀ (p : List Nat) {i R}, Lang S i R → (∃ j, S.dfa.run i p = some j ∧ Lang S j (resid R p)) ∨ (S.dfa.run i p = none ∧ resid R p = [])
 | [], i, R, h => .inl ⟨i, rfl, h⟩
 | c :: p, i, R, h => by
  rcases h.next d c with ⟨j, e, hj⟩ | ⟨e, hn⟩
  ·show (∃ j', (S.dfa.next i c).bind (fun r => S.dfa.run r p) = some j' ∧ Lang S j' (resid (der R c) p)) ∨ ((S.dfa.next i c).bind (fun r => S.dfa.run r p) = none ∧ resid (der R c) p = [])
   rw [e]
   exact hj.run d p
  ·refine .inr ⟨?_, ?_⟩
   ·show (S.dfa.next i c).bind _ = none
    rw [e]; rfl
   ·show resid (der R c) p = []
    rw [hn, resid_none]
theorem acc_of (d : S.Done W M) (l : List Nat) : S.dfa.acc l = decide (l ∈ W) := by
 unfold Dfa.acc
 have hr : [] ∈ resid W l ↔ l ∈ W := by rw [resid_mem, List.append_nil]
 rcases d.root.run d l with ⟨j, e, hj⟩ | ⟨e, hn⟩
 ·rw [e, Bool.eq_iff_iff, hj.fin d, hr, decide_eq_true_iff]
 ·rw [e, Reg.finN]
  rw [hn] at hr
  exact (decide_eq_false fun z => List.not_mem_nil (hr.mpr z)).symm
theorem Lang.deep (d : S.Done W M) : ∀ (k : Nat) {i R}, Lang S i R → (∀ u ∈ R, u.length < k) → S.dfa.Deep k i := by
 intro k
 induction k with
 | zero =>
  intro i R h hk
  obtain ⟨l, f, B, a, b, rfl, n⟩ := h
  refine exE2 (List.exists_cons_of_ne_nil n) fun x X e => ?_
  exact absurd (hk x (by rw [e]; exact mem0)) (Nat.not_lt_zero _)
 | succ k ih =>
  intro i R h hk
  refine .mk fun c r e => ?_
  rcases h.next d c with ⟨j, e', hj⟩ | ⟨e', _⟩
  ·rw [e'] at e; cases e
   refine ih hj fun u hu => ?_
   have := hk _ (der_mem.mp hu)
   simpa using this
  ·rw [e'] at e; cases e
theorem gen_arcs (D : Dfa) (q : Int) (n : Nat) (p : List Nat) : ∀ {l A}, Den S l A → (∀ x ∈ l, D.next q x.1 = some x.2) → (∀ c j R, (c, j) ∈ l → Lang S j R → D.gen n j (p ++ [c]) = R.map ((p ++ [c]) ++ ·)) →
  ((l.map (·.1)).flatMap fun c => match D.next q c with | some r => D.gen n r (p ++ [c]) | none => []) = A.map (p ++ ·) := by
 intro l A h
 induction h with
 | nil => intro _ _; rfl
 | @cons c j l rest f B A a b ne _ _ ih =>
  intro h1 h2
  rw [List.map_cons, List.flatMap_cons, h1 _ mem0, ih (fun x mx => h1 x (.tail _ mx)) fun c' j' R m => h2 c' j' R (.tail _ m)]
  show D.gen n j (p ++ [c]) ++ _ = _
  rw [h2 c j _ mem0 ⟨l, f, B, a, b, rfl, ne⟩, List.map_append (f := (p ++ ·)), List.map_map (g := (p ++ ·))]
  congr 1
  apply List.map_congr_left
  intro u _
  simp
theorem lookup_up : ∀ {l : List (Nat × Int)}, upL l → ∀ x ∈ l, l.lookup x.1 = some x.2
 | [], _, x, h => absurd h List.not_mem_nil
 | y :: l, u, x, h => by
  rcases List.mem_cons.mp h with rfl | h'
  ·simp [List.lookup]
  ·have := u.head x h'
   obtain ⟨a, b⟩ := y
   have hne : x.1 ≠ a := by simp at this; lia
   rw [List.lookup_cons, beq_false_of_ne hne]
   exact lookup_up u.tail x h'
theorem Lang.gen (d : S.Done W M) : ∀ (n : Nat) {i R} (p : List Nat), Lang S i R → S.dfa.Deep n i → S.dfa.gen n i p = R.map (p ++ ·) := by
 intro n
 induction n with
 | zero => intro i R p _ dp; obtain ⟨k, e, _⟩ := dp.inv; cases e
 | succ n ih =>
  intro i R p h dp
  obtain ⟨k, e, dk⟩ := dp.inv
  cases e
  obtain ⟨l, f, B, a, b, rfl, ne⟩ := h
  have harcs := d.arcs a
  have hnext : ∀ x ∈ l, S.dfa.next i x.1 = some x.2 := fun x mx => by rw [Dfa.next_arcs, harcs]; exact lookup_up (d.ok.up _ a) x mx
  unfold Dfa.gen
  rw [d.finI a]
  have : S.dfa.labs i = l.map (·.1) := by unfold Dfa.labs; rw [harcs]
  rw [this]
  suffices h : ∀ X, X = B.map (p ++ ·) → (if f = true then [p] else []) ++ X = (eps f ++ B).map (p ++ ·) from
   h _ (gen_arcs S.dfa i n p b hnext fun c j R m hj => ih _ hj (dk c j (hnext _ m)))
  rintro X rfl
  cases f <;> simp [eps]
theorem gen_of (d : S.Done W M) : S.dfa.gen (M + 1) 0 [] = W := by
 rw [d.root.gen d (M + 1) [] (d.root.deep d (M + 1) fun u hu => Nat.lt_succ_of_le (d.max u hu))]
 simp
theorem deep_of (d : S.Done W M) : S.dfa.Deep (M + 1) 0 := d.root.deep d (M + 1) fun u hu => Nat.lt_succ_of_le (d.max u hu)
theorem up_of (d : S.Done W M) : S.dfa.Up := by
 intro q
 by_cases h : ∃ e ∈ S, e.2 = q
 ·obtain ⟨⟨⟨l, f⟩, i⟩, he, rfl⟩ := h
  rw [d.arcs he]
  exact ⟨d.ok.up _ he, d.small _ he⟩
 ·have : S.dfa.arcs q = [] := by
   show (S.tr.lookup q).getD [] = []
   rw [lookup_tr_none fun e he z => h ⟨e, he, z⟩]; rfl
  rw [this]
  exact ⟨List.Pairwise.nil, by decide⟩
theorem longest : ∀ {W : List (List Nat)}, W ≠ [] → ∃ u ∈ W, ∀ w ∈ W, w.length ≤ u.length
 | [], h => absurd rfl h
 | [w], _ => ⟨w, mem0, fun x hx => by rw [List.mem_singleton.mp hx]; exact Nat.le_refl _⟩
 | w :: v :: W, _ => by
  obtain ⟨u, hu, hm⟩ := longest (W := v :: W) (by simp)
  by_cases h : u.length ≤ w.length
  ·refine ⟨w, mem0, fun x hx => ?_⟩
   rcases List.mem_cons.mp hx with rfl | hx
   ·exact Nat.le_refl _
   ·exact Nat.le_trans (hm x hx) h
  ·refine ⟨u, List.mem_cons_of_mem _ hu, fun x hx => ?_⟩
   rcases List.mem_cons.mp hx with rfl | hx
   ·lia
   ·exact hm x hx
theorem Lang.mem {i R} (h : Lang S i R) : ∃ k, (k, i) ∈ S := by obtain ⟨l, f, _, a, _⟩ := h; exact ⟨(l, f), a⟩
theorem noZero_of (d : S.Done W M) : S.dfa.NoZero := by
 intro q c e
 obtain ⟨_, _, _, _, _, _, hW⟩ := id d.root
 by_cases h : ∃ e ∈ S, e.2 = q
 ·obtain ⟨e', he, rfl⟩ := h
  obtain ⟨R, hR⟩ := d.all e' he
  rcases hR.next d c with ⟨j, e2, hj⟩ | ⟨e2, _⟩
  ·rw [e2] at e; cases e
   have hd := hj.func d.ok d.root
   obtain ⟨p, hp⟩ := d.sub _ _ hR
   obtain ⟨u, hu, hmax⟩ := longest hW
   have h1 : c :: u ∈ R := der_mem.mp (by rw [hd]; exact hu)
   have h2 := hmax _ (hp _ h1)
   simp at h2
   lia
  ·rw [e2] at e; cases e
 ·have : S.dfa.arcs q = [] := by
   show (S.tr.lookup q).getD [] = []
   rw [lookup_tr_none fun e he z => h ⟨e, he, z⟩]; rfl
  rw [Dfa.next_arcs, this] at e
  cases e
end
end
section
theorem addI_mem {l : List Int} {v x : Int} : x ∈ addI l v ↔ x ∈ l ∨ x = v := by
 unfold addI
 by_cases h : l.any (· == v) = true
 ·rw [if_pos h]
  refine ⟨.inl, fun q => q.elim id ?_⟩
  rintro rfl
  obtain ⟨y, hy, e⟩ := List.any_eq_true.mp h
  rw [beq_iff_eq] at e
  exact e ▸ hy
 ·rw [if_neg h]; simp
theorem addI_nodup {l : List Int} {v : Int} (h : l.Nodup) : (addI l v).Nodup := by
 unfold addI
 by_cases q : l.any (· == v) = true
 ·rw [if_pos q]; exact h
 ·rw [if_neg q, List.nodup_append]
  refine (anI3 h (by simp) (fun a ha b hb z => q (List.any_eq_true.mpr ⟨a, ha, ?_⟩)))
  rw [z, List.mem_singleton.mp hb]; exact beq_self_eq_true v
theorem addsI_mem : ∀ {vs l : List Int} {x : Int}, x ∈ addsI l vs ↔ x ∈ l ∨ x ∈ vs
 | [], l, x => by simp [addsI]
 | v :: vs, l, x => by
  show x ∈ addsI (addI l v) vs ↔ _
  rw [addsI_mem, addI_mem, List.mem_cons, or_assoc]
theorem addsI_nodup : ∀ {vs l : List Int}, l.Nodup → (addsI l vs).Nodup
 | [], _, h => h
 | v :: vs, l, h => addsI_nodup (vs := vs) (l := addI l v) (addI_nodup h)
theorem same_length {α : Type} {l l' : List α} (n : l.Nodup) (n' : l'.Nodup) (h : ∀ x, x ∈ l ↔ x ∈ l') : l.length = l'.length :=
 ((List.perm_ext_iff_of_nodup n n').mpr h).length_eq
section
variable {S : Reg} {W : List (List Nat)} {M : Nat}
theorem Lang.target (d : S.Done W M) {c : Nat} {i : Int} {e' : (List (Nat × Int) × Bool) × Int} (he : e' ∈ S) (hc : (c, i) ∈ e'.1.1) : ∃ k, (k, i) ∈ S := by
 obtain ⟨R, hR⟩ := d.all e' he
 obtain ⟨⟨l, f⟩, j⟩ := e'
 rcases hR.next d c with ⟨j', e2, hj⟩ | ⟨e2, _⟩
 ·rw [Dfa.next_arcs, d.arcs he, lookup_up (d.ok.up _ he) _ hc] at e2
  cases e2
  exact hj.mem
 ·rw [Dfa.next_arcs, d.arcs he, lookup_up (d.ok.up _ he) _ hc] at e2
  cases e2
theorem states_of (d : S.Done W M) (hne : [] ∉ W) : S.dfa.states.length = S.length := by
 have hk : ∀ x, x ∈ S.dfa.states ↔ x ∈ S.map (·.2) := by
  intro x
  unfold Dfa.states
  rw [addsI_mem, addsI_mem]
  show ((x ∈ [] ∨ x ∈ (Reg.tr S).map (·.1)) ∨ x ∈ (Reg.tr S).flatMap fun x => x.2.map (·.2)) ↔ _
  constructor
  ·rintro ((h | h) | h)
   ·exact absurd h List.not_mem_nil
   ·obtain ⟨y, hy, rfl⟩ := List.mem_map.mp h
    obtain ⟨e, he, rfl⟩ := List.mem_map.mp hy
    exact List.mem_map.mpr ⟨e, (List.mem_filter.mp he).1, rfl⟩
   ·obtain ⟨y, hy, hx⟩ := List.mem_flatMap.mp h
    obtain ⟨e, he, rfl⟩ := List.mem_map.mp hy
    obtain ⟨⟨c, i⟩, hci, rfl⟩ := List.mem_map.mp hx
    obtain ⟨k, hk⟩ := Lang.target d (List.mem_filter.mp he).1 hci
    exact List.mem_map.mpr ⟨_, hk, rfl⟩
  ·intro h
   obtain ⟨e, he, rfl⟩ := List.mem_map.mp h
   rcases d.tgt e he with h0 | ⟨e', he', c, hc⟩
   ·refine .inl (.inr ?_)
    obtain ⟨l, f, B, a, b, hW, n⟩ := id d.root
    have hf : f = false := by
     cases f with
     | false => rfl
     | true => exact absurd (hW ▸ memL mem0) hne
    subst hf
    have hl : l ≠ [] := by
     rintro rfl
     cases b
     exact n hW
    rw [h0]
    refine List.mem_map.mpr ⟨(0, l), List.mem_map.mpr ⟨((l, false), 0), List.mem_filter.mpr ⟨a, ?_⟩, rfl⟩, rfl⟩
    cases l with
    | nil => exact absurd rfl hl
    | cons => rfl
   ·refine .inr (List.mem_flatMap.mpr ⟨(e'.2, e'.1.1), List.mem_map.mpr ⟨e', List.mem_filter.mpr ⟨he', ?_⟩, rfl⟩, List.mem_map.mpr ⟨_, hc, rfl⟩⟩)
    cases h1 : e'.1.1 with
    | nil => rw [h1] at hc; exact absurd hc List.not_mem_nil
    | cons => rfl
 rw [same_length (l := S.dfa.states) (addsI_nodup (addsI_nodup List.nodup_nil)) d.nd hk, List.length_map]
theorem reach_of (d : S.Done W M) : ∀ (n : Nat) {i : Int} {R : List (List Nat)} {u : List Nat}, Lang S i R → u ∈ R → M - u.length ≤ n → u.length ≤ M → ∃ p, S.dfa.run 0 p = some i := by
 intro n
 induction n with
 | zero =>
  intro i R u h hu hn hM
  obtain ⟨k, hk⟩ := h.mem
  rcases d.tgt _ hk with h0 | ⟨e', he', c, hc⟩
  ·exact ⟨[], congrArg some (Eq.symm h0)⟩
  ·obtain ⟨R', hR'⟩ := d.all e' he'
   obtain ⟨⟨l, f⟩, j⟩ := e'
   have hnx : S.dfa.next j c = some i := by rw [Dfa.next_arcs, d.arcs he']; exact lookup_up (d.ok.up _ he') _ hc
   rcases hR'.next d c with ⟨j', e2, hj⟩ | ⟨e2, _⟩
   ·rw [hnx] at e2; cases e2
    have := hj.func d.ok h
    have hcu : c :: u ∈ R' := der_mem.mp (by rw [this]; exact hu)
    obtain ⟨p, hp⟩ := d.sub _ _ hR'
    have := d.max _ (hp _ hcu)
    simp at this
    lia
   ·rw [hnx] at e2; cases e2
 | succ n ih =>
  intro i R u h hu hn hM
  obtain ⟨k, hk⟩ := h.mem
  rcases d.tgt _ hk with h0 | ⟨e', he', c, hc⟩
  ·exact ⟨[], congrArg some (Eq.symm h0)⟩
  ·obtain ⟨R', hR'⟩ := d.all e' he'
   obtain ⟨⟨l, f⟩, j⟩ := e'
   have hnx : S.dfa.next j c = some i := by rw [Dfa.next_arcs, d.arcs he']; exact lookup_up (d.ok.up _ he') _ hc
   rcases hR'.next d c with ⟨j', e2, hj⟩ | ⟨e2, _⟩
   ·rw [hnx] at e2; cases e2
    have := hj.func d.ok h
    have hcu : c :: u ∈ R' := der_mem.mp (by rw [this]; exact hu)
    obtain ⟨p, hp⟩ := d.sub _ _ hR'
    have hlen := d.max _ (hp _ hcu)
    simp at hlen
    obtain ⟨p', hp'⟩ := ih hR' hcu (by simp; lia) (by simp; lia)
    refine ⟨p' ++ [c], ?_⟩
    rw [Dfa.run_append, hp']
    show (S.dfa.next j c).bind _ = _
    rw [hnx]; rfl
   ·rw [hnx] at e2; cases e2
theorem langs_of (h : ∀ e ∈ S, ∃ R, Lang S e.2 R) : ∀ {T : Reg}, (∀ e ∈ T, e ∈ S) → ∃ Ls : List (List (List Nat)), Ls.length = T.length ∧ ∀ (k : Nat) e, T[k]? = some e → ∃ R, Ls[k]? = some R ∧ Lang S e.2 R
 | [], _ => ⟨[], rfl, fun k e z => by simp at z⟩
 | e :: T, s => by
  obtain ⟨R, hR⟩ := h e (s e mem0)
  obtain ⟨Ls, h1, h2⟩ := langs_of h (T := T) fun x hx => s x (.tail _ hx)
  refine ⟨R :: Ls, by simp [h1], fun k e' z => ?_⟩
  cases k with
  | zero => simp at z; subst z; exact ⟨R, rfl, hR⟩
  | succ k => simpa using h2 k e' (by simpa using z)
theorem count_of (d : S.Done W M) {X : List (List (List Nat))} (nX : X.Nodup) (hX : ∀ R, R ∈ X ↔ ∃ w ∈ W, ∃ k, k ≤ w.length ∧ R = resid W (w.take k)) : X.length = S.length := by
 obtain ⟨Ls, hl, hLs⟩ := langs_of d.all (T := S) fun _ h => h
 rw [← hl]
 have hn : Ls.Nodup := by
  refine List.pairwise_iff_getElem.mpr fun i j hi hj hij e => ?_
  have hi' : i < S.length := by lia
  have hj' : j < S.length := by lia
  obtain ⟨R, h1, h2⟩ := hLs i S[i] (List.getElem?_eq_getElem hi')
  obtain ⟨R', h3, h4⟩ := hLs j S[j] (List.getElem?_eq_getElem hj')
  rw [List.getElem?_eq_getElem hi] at h1
  rw [List.getElem?_eq_getElem hj] at h3
  cases h1
  cases h3
  rw [e] at h2
  have hxy := h2.inj d.ok h4
  have nd := List.pairwise_iff_getElem.mp d.nd i j (by rw [List.length_map]; lia) (by rw [List.length_map]; lia) hij
  apply nd
  rw [List.getElem_map, List.getElem_map]
  exact hxy
 refine same_length nX hn fun R => ?_
 rw [hX]
 constructor
 ·intro zI
  obtain ⟨w, hw, k, _, rfl⟩ := zI
  rcases d.root.run d (w.take k) with ⟨j, _, hj⟩ | ⟨_, hn⟩
  ·obtain ⟨key, hk⟩ := hj.mem
   obtain ⟨m, hm⟩ := List.mem_iff_getElem?.mp hk
   obtain ⟨R, h1, h2⟩ := hLs m _ hm
   rw [hj.func d.ok h2]
   exact List.mem_of_getElem? h1
  ·have : w.drop k ∈ resid W (w.take k) := by rw [resid_mem, List.take_append_drop]; exact hw
   rw [hn] at this
   exact absurd this List.not_mem_nil
 ·intro h
  obtain ⟨m, hm⟩ := List.mem_iff_getElem?.mp h
  have hlt : m < S.length := by
   rw [← hl]
   rcases Nat.lt_or_ge m Ls.length with z | z
   ·exact z
   ·rw [List.getElem?_eq_none z] at hm; cases hm
  obtain ⟨R', h1, h2⟩ := hLs m S[m] (List.getElem?_eq_getElem hlt)
  rw [hm] at h1
  cases h1
  obtain ⟨l, f, B, a, b, e, n⟩ := id h2
  refine exE2 (List.exists_cons_of_ne_nil n) fun u U hu => ?_
  have huR : u ∈ R := by rw [hu]; exact mem0
  obtain ⟨p0, hp0⟩ := d.sub _ _ h2
  have hM := d.max _ (hp0 u huR)
  obtain ⟨p, hp⟩ := reach_of d M h2 huR (by lia) (by simp at hM; lia)
  rcases d.root.run d p with ⟨j, e1, hj⟩ | ⟨e1, _⟩
  ·rw [hp] at e1; cases e1
   have hR := h2.func d.ok hj
   have hw : p ++ u ∈ W := resid_mem.mp (hR ▸ huR)
   refine ⟨p ++ u, hw, p.length, by simp, ?_⟩
   rw [List.take_left]
   exact hR
  ·rw [hp] at e1; cases e1
end
end
section
noncomputable def headGe (k : Nat) : List Nat → Bool
 | [] => false
 | a :: _ => decide (k ≤ a)
theorem le_cons {a c : Nat} {t u : List Nat} : c :: t ≤ a :: u ↔ c < a ∨ (c = a ∧ t ≤ u) := by
 show ¬ (a :: u < c :: t) ↔ _
 rw [List.cons_lt_cons_iff]
 constructor
 ·intro h
  by_cases e : c = a
  ·exact .inr ⟨e, fun z => h (.inr ⟨e.symm, z⟩)⟩
  ·exact .inl (by have : ¬ a < c := fun z => h (.inl z); lia)
 ·rintro (h | ⟨rfl, h⟩) (z | ⟨z, z'⟩)
  ·lia
  ·lia
  ·lia
  ·exact h z'
theorem not_le_nil {c : Nat} {t : List Nat} : ¬ (c :: t ≤ ([] : List Nat)) := fun h => h (List.nil_lt_cons c t)
theorem nil_le' (u : List Nat) : ([] : List Nat) ≤ u := fun h => List.not_lt_nil _ h
theorem filter_map' {A : List (List Nat)} {a : Nat} (p : List Nat → Bool) : (A.map (a :: ·)).filter p = (A.filter fun u => p (a :: u)).map (a :: ·) := by
 rw [List.filter_map]; rfl
section
variable {S : Reg} {W : List (List Nat)} {M : Nat}
theorem Den.headsGe {l A} (h : Den S l A) {k : Nat} (hk : ∀ x ∈ l, k ≤ x.1) : A.filter (headGe k) = A := by
 rw [List.filter_eq_self]
 intro w hw
 obtain ⟨x, mx, u, rfl⟩ := h.heads w hw
 exact decide_eq_true (hk x mx)
theorem Den.allGe {l A} (h : Den S l A) {c : Nat} {t : List Nat} (hk : ∀ x ∈ l, c < x.1) : (A.filter fun u => decide (c :: t ≤ u)) = A := by
 rw [List.filter_eq_self]
 intro w hw
 obtain ⟨x, mx, u, rfl⟩ := h.heads w hw
 exact decide_eq_true (le_cons.mpr (.inl (hk x mx)))
theorem den_ge {c : Nat} {t : List Nat} : ∀ {l A}, Den S l A → upL l → (A.filter fun u => decide (c :: t ≤ u)) = ((der A c).filter fun u => decide (t ≤ u)).map (c :: ·) ++ A.filter (headGe (c + 1)) := by
 intro l A h
 induction h with
 | nil => intro _; rfl
 | @cons a j l rest f B A hm hd ne hr _ ih =>
  intro u
  rw [List.filter_append, List.filter_append, der_app, filter_map', filter_map']
  rcases Nat.lt_trichotomy a c with h1 | h1 | h1
  ·have e1 : ((eps f ++ B).filter fun u => decide (c :: t ≤ a :: u)) = [] := by
    rw [List.filter_eq_nil_iff]; intro x _; simp only [decide_eq_true_eq, le_cons]; lia
   have e2 : ((eps f ++ B).filter fun u => headGe (c + 1) (a :: u)) = [] := by
    rw [List.filter_eq_nil_iff]; intro x _; simp only [headGe, decide_eq_true_eq]; lia
   rw [e1, e2, der_other _ (by lia), ih u.tail]
   rfl
  ·subst h1
   have e1 : ((eps f ++ B).filter fun u => decide (a :: t ≤ a :: u)) = (eps f ++ B).filter fun u => decide (t ≤ u) := by
    apply List.filter_congr; intro x _; rw [decide_eq_decide, le_cons]; simp
   have e2 : ((eps f ++ B).filter fun u => headGe (a + 1) (a :: u)) = [] := by
    rw [List.filter_eq_nil_iff]; intro x _; simp only [headGe, decide_eq_true_eq]; lia
   rw [e1, e2, der_same, der_later hr (fun x mx => u.head x mx), List.append_nil, hr.allGe fun x mx => u.head x mx, hr.headsGe fun x mx => u.head x mx]
   rfl
  ·have e1 : ((eps f ++ B).filter fun u => decide (c :: t ≤ a :: u)) = eps f ++ B := by
    rw [List.filter_eq_self]; intro x _; exact decide_eq_true (le_cons.mpr (.inl h1))
   have e2 : ((eps f ++ B).filter fun u => headGe (c + 1) (a :: u)) = eps f ++ B := by
    rw [List.filter_eq_self]; intro x _; exact decide_eq_true h1
   have hlt : ∀ x ∈ rest, c < x.1 := fun x mx => Nat.lt_trans h1 (u.head x mx)
   rw [e1, e2, der_other _ (by lia), der_later hr hlt, hr.allGe hlt, hr.headsGe hlt]
   rfl
noncomputable def cand (R : List (List Nat)) (p : List Nat) (lo : Option Nat) : List (List Nat) := (R.filter (headGe (lo.elim 0 (· + 1)))).map (p ++ ·)
inductive RowC (S : Reg) : List (List Nat × Int × Option Nat) → List (List Nat) → Prop
 | nil : RowC S [] []
 | cons {p : List Nat} {q : Int} {lo : Option Nat} {R Y : List (List Nat)} {rest : List (List Nat × Int × Option Nat)} : Lang S q R → RowC S rest Y → RowC S ((p, q, lo) :: rest) (cand R p lo ++ Y)
theorem RowC.app {r r' Y Y'} (h : RowC S r Y) (h' : RowC S r' Y') : RowC S (r ++ r') (Y ++ Y') := by
 induction h with
 | nil => exact h'
 | cons a _ ih => rw [List.cons_append, List.append_assoc]; exact .cons a ih
theorem RowC.one {p q lo R} (h : Lang S q R) : RowC S [(p, q, lo)] (cand R p lo) := by
 have := RowC.cons (p := p) (lo := lo) h .nil
 rwa [List.append_nil] at this
theorem trail_row (d : S.Done W M) : ∀ (l : List Nat) {i : Int} {R : List (List Nat)} (p : List Nat), Lang S i R → l ∉ R → RowC S (S.dfa.trail i p l).reverse ((R.filter fun u => decide (l ≤ u)).map (p ++ ·)) := by
 intro l
 induction l with
 | nil =>
  intro i R p h hn
  have e : (R.filter fun u => decide ([] ≤ u)) = R.filter (headGe 0) := by
   apply List.filter_congr
   intro x hx
   cases x with
   | nil => exact absurd hx hn
   | cons a u => simp [headGe, nil_le']
  rw [e]
  exact RowC.one h
 | cons c t ih =>
  intro i R p h hn
  have hR : (R.filter fun u => decide (c :: t ≤ u)) = ((der R c).filter fun u => decide (t ≤ u)).map (c :: ·) ++ R.filter (headGe (c + 1)) := by
   obtain ⟨l, f, B, a, b, rfl, _⟩ := id h
   have := den_ge (c := c) (t := t) b (d.ok.up _ a)
   cases f with
   | false => simpa [eps] using this
   | true =>
    have e : der (eps true ++ B) c = der B c := rfl
    rw [e]
    show (([] :: B).filter _) = _ ++ (([] :: B).filter _)
    rw [List.filter_cons, if_neg (by simp [not_le_nil]), List.filter_cons, if_neg (by simp [headGe])]
    exact this
  rw [hR, List.map_append, List.map_map]
  rcases h.next d c with zc | ⟨e, hd⟩
  ·obtain ⟨j, e, hj⟩ := zc
   have ht : S.dfa.trail i p (c :: t) = (p, i, some c) :: S.dfa.trail j (p ++ [c]) t := by
    show (p, i, some c) :: _ = _
    rw [e]
   rw [ht, List.reverse_cons]
   refine RowC.app ?_ (RowC.one h)
   have := ih (p ++ [c]) hj (fun z => hn (der_mem.mp z))
   have e2 : ((fun x => p ++ x) ∘ fun x => c :: x) = fun x : List Nat => p ++ [c] ++ x := by funext x; simp
   rw [e2]
   exact this
  ·have ht : S.dfa.trail i p (c :: t) = [(p, i, some c)] := by
    show (p, i, some c) :: _ = _
    rw [e]
   rw [ht, hd]
   exact RowC.one h
theorem den_edge {k : Nat} : ∀ {l A}, Den S l A → upL l → ((l.map (·.1)).find? (fun x => decide (k ≤ x)) = none ∧ A.filter (headGe k) = []) ∨
  ∃ c j R' Z, (l.map (·.1)).find? (fun x => decide (k ≤ x)) = some c ∧ l.lookup c = some j ∧ Lang S j R' ∧ A.filter (headGe k) = R'.map (c :: ·) ++ Z := by
 intro l A h
 induction h with
 | nil => intro _; exact .inl ⟨rfl, rfl⟩
 | @cons a j l rest f B A hm hd ne hr _ ih =>
  intro u
  rw [List.filter_append, filter_map', List.map_cons, List.find?_cons]
  by_cases h1 : k ≤ a
  ·refine .inr (exI4 a j (eps f ++ B) (A.filter (headGe k)) (anI4 (by simp [h1]) (by simp [List.lookup]) ⟨l, f, B, hm, hd, rfl, ne⟩ ?_))
   congr 2
   rw [List.filter_eq_self]; intro x _; exact decide_eq_true h1
  ·have e1 : ((eps f ++ B).filter fun u => headGe k (a :: u)) = [] := by
    rw [List.filter_eq_nil_iff]; intro x _; simpa [headGe] using h1
   rw [e1, List.map_nil, List.nil_append]
   simp only [h1, decide_false]
   rcases ih u.tail with h2 | zc
   ·exact .inl h2
   ·(refine exE4 zc fun c j' R' Z zr1 => anE4 zr1 fun h2 h3 h4 h5 => ?_; clear zc zr1)
    refine .inr (exI4 c j' R' Z (anI4 h2 ?_ h4 h5))
    have : c ≠ a := by
     rintro rfl
     have := List.find?_some h2
     simp at this
     exact h1 this
    rw [List.lookup_cons, beq_false_of_ne this]
    exact h3
theorem Lang.edge (d : S.Done W M) {i R} (h : Lang S i R) (k : Nat) : (S.dfa.edge i k = none ∧ R.filter (headGe k) = []) ∨ ∃ c j R' Z, S.dfa.edge i k = some c ∧ S.dfa.next i c = some j ∧ Lang S j R' ∧ R.filter (headGe k) = R'.map (c :: ·) ++ Z := by
 obtain ⟨l, f, B, a, b, rfl, _⟩ := h
 have e : (eps f ++ B).filter (headGe k) = B.filter (headGe k) := by
  cases f <;> rfl
 rw [e, Dfa.edge, Dfa.labs, d.arcs a]
 rcases den_edge (k := k) b (d.ok.up _ a) with h | zc
 ·exact .inl h
 ·(refine exE4 zc fun c j R' Z zr2 => anE4 zr2 fun h1 h2 h3 h4 => ?_; clear zc zr2)
  exact .inr (exI4 c j R' Z (anI4 h1 (by rw [Dfa.next_arcs, d.arcs a]; exact h2) h3 h4))
theorem Lang.first (d : S.Done W M) {i R} (h : Lang S i R) (hf : S.dfa.fin (some i) = true) : ∃ Z, R = [] :: Z := by
 obtain ⟨l, f, B, a, b, rfl, _⟩ := h
 rw [d.finI a] at hf
 subst hf
 exact ⟨B, rfl⟩
theorem seeks_down (d : S.Done W M) : ∀ (k n : Nat) {i : Int} {u : List Nat} {R : List (List Nat)} {p : List Nat} {st : List (List Nat × Int × Option Nat)}, k ≤ n → Lang S i (u :: R) → (∀ w ∈ u :: R, w.length ≤ k) → S.dfa.fin (some i) = false → p.length + k ≤ 500 →
  S.dfa.Seeks n ((p, i, none) :: st) (some (p ++ u)) := by
 intro k
 induction k with
 | zero =>
  intro n i u R p st _ h hl hf _
  have h0 := hl u mem0
  have : u = [] := List.length_eq_zero_iff.mp (Nat.le_zero.mp h0)
  subst this
  exact absurd ((h.fin d).mpr mem0) (by rw [hf]; exact Bool.false_ne_true)
 | succ k ih =>
  intro n i u R p st hn h hl hf hp
  obtain ⟨n, rfl⟩ : ∃ m, n = m + 1 := ⟨n - 1, by lia⟩
  have hall : (u :: R).filter (headGe 0) = u :: R := by
   rw [List.filter_eq_self]
   intro w hw
   cases w with
   | nil => exact absurd ((h.fin d).mpr hw) (by rw [hf]; exact Bool.false_ne_true)
   | cons a v => simp [headGe]
  rcases h.edge d 0 with ⟨_, e⟩ | zc
  ·rw [hall] at e; cases e
  ·(refine exE4 zc fun c j R' Z zr3 => anE4 zr3 fun h1 h2 h3 h4 => ?_; clear zc zr3)
   rw [hall] at h4
   have zh1 : ∃ v V, R' = v :: V := by
    obtain ⟨_, _, _, _, _, _, ne⟩ := id h3
    exact List.exists_cons_of_ne_nil ne
   refine exE2 zh1 fun v V hv => ?_
   clear zh1
   subst hv
   simp only [List.map_cons, List.cons_append, List.cons.injEq] at h4
   obtain ⟨rfl, hR⟩ := h4
   have hv : ∀ w ∈ v :: V, w.length ≤ k := fun w hw => by
    have : c :: w ∈ (c :: v) :: R := by
     rcases List.mem_cons.mp hw with rfl | hw
     ·exact mem0
     ·exact List.mem_cons_of_mem _ (hR ▸ memL (List.mem_map_of_mem hw))
    have := hl _ this
    simpa using this
   cases hfj : S.dfa.fin (some j) with
   | true =>
    obtain ⟨Z', hZ⟩ := h3.first d hfj
    cases hZ
    exact .hit (fun _ z => by cases z) (by lia) h1 h2 hfj
   | false =>
    have := ih n (p := p ++ [c]) (st := st) (by lia) h3 hv hfj (by simp; lia)
    rw [List.append_assoc] at this
    exact .push (fun _ z => by cases z) (by lia) h1 h2 hfj this
theorem seeks_row (d : S.Done W M) (hM : ∀ i R, Lang S i R → ∀ u ∈ R, u.length ≤ M) : ∀ {row Y}, RowC S row Y → (∀ e ∈ row, e.1.length + M + 1 ≤ 500 ∧ ∀ c, e.2.2 = some c → c ≤ 100000) → S.dfa.Seeks (row.length + M) row Y.head? := by
 intro row Y h
 induction h with
 | nil => intro _; exact .nil
 | @cons p q lo R Y rest hL _ ih =>
  intro hr
  obtain ⟨hp, hlo⟩ := hr _ mem0
  have ih' := ih fun e me => hr e (.tail _ me)
  have en : (((p, q, lo) :: rest).length + M) = (rest.length + M) + 1 := by simp; lia
  rw [en]
  unfold cand
  rcases hL.edge d (lo.elim 0 (· + 1)) with ⟨h1, h2⟩ | zc
  ·rw [h2]
   exact .miss hlo h1 ih'
  ·(refine exE4 zc fun c j R' Z zr4 => anE4 zr4 fun h1 h2 h3 h4 => ?_; clear zc zr4)
   rw [h4]
   have zh3 : ∃ v V, R' = v :: V := by
    obtain ⟨_, _, _, _, _, _, ne⟩ := id h3
    exact List.exists_cons_of_ne_nil ne
   refine exE2 zh3 fun v V ze2 => ?_
   clear zh3
   subst ze2
   have hp' : p.length + M + 1 ≤ 500 := hp
   show S.dfa.Seeks _ _ (some (p ++ c :: v))
   cases hfj : S.dfa.fin (some j) with
   | true =>
    obtain ⟨Z', hZ⟩ := h3.first d hfj
    cases hZ
    exact .hit hlo (by lia) h1 h2 hfj
   | false =>
    have := seeks_down d M (rest.length + M) (p := p ++ [c]) (st := rest) (by lia) h3 (hM _ _ h3) hfj (by simp; lia)
    rw [List.append_assoc] at this
    exact .push hlo (by lia) h1 h2 hfj this
theorem trail_bounds (D : Dfa) : ∀ (l : List Nat) (i : Int) (p : List Nat) (N : Nat), (∀ c ∈ l, c ≤ 100000) → p.length + l.length ≤ N → ∀ e ∈ D.trail i p l, e.1.length ≤ N ∧ ∀ c, e.2.2 = some c → c ≤ 100000 := by
 intro l
 induction l with
 | nil =>
  intro i p N _ hN e he
  have : e = (p, i, none) := by simpa [Dfa.trail] using he
  subst this
  exact ⟨by simpa using hN, fun c z => by cases z⟩
 | cons c t ih =>
  intro i p N hc hN e he
  have hh : e = (p, i, some c) ∨ ∃ r, D.next i c = some r ∧ e ∈ D.trail r (p ++ [c]) t := by
   rcases List.mem_cons.mp (show e ∈ (p, i, some c) :: _ from he) with z | z
   ·exact .inl z
   ·cases hn : D.next i c with
    | none => rw [hn] at z; exact absurd z List.not_mem_nil
    | some r => rw [hn] at z; exact .inr ⟨r, rfl, z⟩
  rcases hh with rfl | zc
  ·refine ⟨by simp at hN ⊢; lia, fun c' z => ?_⟩
   cases z
   exact hc _ mem0
  ·obtain ⟨r, _, hr⟩ := zc
   exact ih r (p ++ [c]) N (fun x hx => hc x (.tail _ hx)) (by simp at hN ⊢; lia) e hr
theorem trail_len (D : Dfa) : ∀ (l : List Nat) (i : Int) (p : List Nat), (D.trail i p l).length ≤ l.length + 1 := by
 intro l
 induction l with
 | nil => intro i p; exact Nat.le_refl _
 | cons c t ih =>
  intro i p
  show ((p, i, some c) :: _).length ≤ _
  cases hn : D.next i c with
  | none => simp
  | some r => have := ih r (p ++ [c]); simp; lia
theorem find_sorted : ∀ {W : List (List Nat)}, W.Pairwise (· < ·) → ∀ {l}, l ∈ W → W.find? (fun u => decide (l ≤ u)) = some l
 | [], _, l, h => absurd h List.not_mem_nil
 | w :: W, hs, l, h => by
  rw [List.find?_cons]
  rcases List.mem_cons.mp h with rfl | h'
  ·simp
  ·have hlt := (List.pairwise_cons.mp hs).1 l h'
   have : ¬ l ≤ w := fun z => z hlt
   simp only [this, decide_false]
   exact find_sorted (List.pairwise_cons.mp hs).2 h'
theorem nvs_of (d : S.Done W M) (hs : W.Pairwise (· < ·)) {l : List Nat} (hl : ∀ c ∈ l, c ≤ 100000) (hlen : l.length + M ≤ 400) :
  if S.dfa.fin (S.dfa.run 0 l) then W.find? (fun u => decide (l ≤ u)) = some l else ∃ n, n ≤ l.length + 1 + M ∧ S.dfa.Seeks n (S.dfa.trail 0 [] l).reverse (W.find? fun u => decide (l ≤ u)) := by
 have ha := acc_of d l
 unfold Dfa.acc at ha
 rw [ha]
 by_cases h : l ∈ W
 ·simp only [h, decide_true, if_true]
  exact find_sorted hs h
 ·simp only [h, decide_false, Bool.false_eq_true, if_false]
  have hr := trail_row d l [] d.root h
  have hM : ∀ i R, Lang S i R → ∀ u ∈ R, u.length ≤ M := fun i R hL u hu => by
   obtain ⟨p, hp⟩ := d.sub _ _ hL
   have := d.max _ (hp u hu)
   simp at this; lia
  have := seeks_row d hM hr fun e me => by
   have := trail_bounds S.dfa l 0 [] l.length hl (by simp) e (List.mem_reverse.mp me)
   exact ⟨by lia, this.2⟩
  rw [List.length_reverse] at this
  refine ⟨_, Nat.add_le_add_right (trail_len S.dfa l 0 []) M, ?_⟩
  have e : (((W.filter fun u => decide (l ≤ u)).map fun x => [] ++ x)).head? = W.find? fun u => decide (l ≤ u) := by
   have : (W.filter fun u => decide (l ≤ u)).map (fun x => [] ++ x) = W.filter fun u => decide (l ≤ u) := by simp
   rw [this, List.head?_filter]
  rw [e] at this
  exact this
end
end
section
theorem Ab.dfa_of {a : Ab} (h1 : a.fin = Reg.fin a.seen) (h2 : a.tr = Reg.tr a.seen) : (⟨a.tr, fun q => decide (∃ i ∈ a.fin, q = some i)⟩ : Dfa) = Reg.dfa a.seen := by
 rw [h1, h2]; rfl
theorem putK_new {l : List (Nat × Int)} {c : Nat} {v : Int} (h : ∀ x ∈ l, x.1 ≠ c) : putK l c v = l ++ [(c, v)] := by
 unfold putK
 rw [if_neg]
 rw [Bool.not_eq_true, List.any_eq_false]
 intro x hx
 simpa using h x hx
theorem putK_last {l : List (Nat × Int)} {c : Nat} {n v : Int} (h : ∀ x ∈ l, x.1 ≠ c) : putK (l ++ [(c, n)]) c v = l ++ [(c, v)] := by
 unfold putK
 rw [if_pos (by simp), List.map_append]
 congr 1
 ·conv => rhs; rw [← List.map_id l]
  exact List.map_congr_left fun x hx => by simp [h x hx]
 ·simp
theorem putK_same {l : List (Nat × Int)} {c : Nat} {v : Int} (u : upL l) (h : (c, v) ∈ l) : putK l c v = l := by
 unfold putK
 rw [if_pos (List.any_eq_true.mpr ⟨_, h, by simp⟩)]
 conv => rhs; rw [← List.map_id l]
 refine List.map_congr_left fun x hx => ?_
 by_cases e : x.1 = c
 ·rw [if_pos (by simpa using e)]
  have h1 := lookup_up u x hx
  have h2 := lookup_up u _ h
  rw [e] at h1
  rw [h1] at h2
  cases h2
  rfl
 ·rw [if_neg (by simpa using e)]; rfl
theorem upL_snoc {l : List (Nat × Int)} {c : Nat} {v : Int} (u : upL l) (h : ∀ x ∈ l, x.1 < c) : upL (l ++ [(c, v)]) := by
 unfold upL at *
 rw [List.map_append, List.pairwise_append]
 refine (anI3 u (by simp) (fun a ha b hb => ?_))
 obtain ⟨x, hx, rfl⟩ := List.mem_map.mp ha
 simp at hb; subst hb
 exact h x hx
theorem upL_init {l : List (Nat × Int)} {x : Nat × Int} (u : upL (l ++ [x])) : upL l ∧ ∀ y ∈ l, y.1 < x.1 := by
 unfold upL at *
 rw [List.map_append, List.pairwise_append] at u
 exact ⟨u.1, fun y hy => u.2.2 y.1 (List.mem_map_of_mem hy) x.1 (by simp)⟩
theorem addTr_new {tr : List (Int × List (Nat × Int))} {q : Int} {c : Nat} {i : Int} (h : ∀ x ∈ tr, x.1 ≠ q) : addTr tr q c i = tr ++ [(q, [(c, i)])] := by
 unfold addTr
 rw [if_neg]
 rw [Bool.not_eq_true, List.any_eq_false]
 intro x hx
 simpa using h x hx
theorem addTr_last {tr : List (Int × List (Nat × Int))} {q : Int} {l : List (Nat × Int)} {c : Nat} {i : Int} (h : ∀ x ∈ tr, x.1 ≠ q) (hc : ∀ x ∈ l, x.1 ≠ c) : addTr (tr ++ [(q, l)]) q c i = tr ++ [(q, l ++ [(c, i)])] := by
 unfold addTr
 rw [if_pos (by simp), List.map_append]
 congr 1
 ·conv => rhs; rw [← List.map_id tr]
  exact List.map_congr_left fun x hx => by simp [h x hx]
 ·simp [putK_new hc]
theorem addAll_more {tr : List (Int × List (Nat × Int))} {q : Int} (h : ∀ x ∈ tr, x.1 ≠ q) : ∀ (l l' : List (Nat × Int)), upL (l' ++ l) → addAll (tr ++ [(q, l')]) q l = tr ++ [(q, l' ++ l)]
 | [], l', _ => by simp [addAll]
 | x :: l, l', u => by
  show addAll (addTr (tr ++ [(q, l')]) q x.1 x.2) q l = _
  have e : l' ++ x :: l = (l' ++ [x]) ++ l := by simp
  rw [e] at u
  have u1 : upL (l' ++ [x]) := by
   unfold upL at *
   rw [List.map_append, List.pairwise_append] at u
   exact u.1
  rw [addTr_last h fun y hy => Nat.ne_of_lt ((upL_init u1).2 y hy), addAll_more h l (l' ++ [x]) u, e]
theorem addAll_new {tr : List (Int × List (Nat × Int))} {q : Int} (h : ∀ x ∈ tr, x.1 ≠ q) (x : Nat × Int) (l : List (Nat × Int)) (u : upL (x :: l)) : addAll tr q (x :: l) = tr ++ [(q, x :: l)] := by
 show addAll (addTr tr q x.1 x.2) q l = _
 rw [addTr_new h]
 exact addAll_more h l [x] u
theorem addTr_same {tr : List (Int × List (Nat × Int))} {q : Int} {l : List (Nat × Int)} {c : Nat} {i : Int} (nd : (tr.map (·.1)).Nodup) (hm : (q, l) ∈ tr) (u : upL l) (hc : (c, i) ∈ l) : addTr tr q c i = tr := by
 unfold addTr
 rw [if_pos (List.any_eq_true.mpr ⟨_, hm, by simp⟩)]
 conv => rhs; rw [← List.map_id tr]
 refine List.map_congr_left fun x hx => ?_
 by_cases e : x.1 = q
 ·rw [if_pos (by simpa using e)]
  have : x = (q, l) := by
   obtain ⟨i, hi, e1⟩ := List.getElem_of_mem hx
   obtain ⟨j, hj, e2⟩ := List.getElem_of_mem hm
   by_cases hij : i = j
   ·subst hij; rw [← e1, e2]
   ·have hp := List.pairwise_iff_getElem.mp nd
    rcases Nat.lt_or_gt_of_ne hij with z | z
    ·have := hp i j (by simpa using hi) (by simpa using hj) z
     simp [e1, e2, e] at this
    ·have := hp j i (by simpa using hj) (by simpa using hi) z
     simp [e1, e2, e] at this
  subst this
  show (q, putK l c i) = (q, l)
  rw [putK_same u hc]
 ·rw [if_neg (by simpa using e)]; rfl
theorem addAll_same {tr : List (Int × List (Nat × Int))} {q : Int} {l : List (Nat × Int)} (nd : (tr.map (·.1)).Nodup) (hm : (q, l) ∈ tr) (u : upL l) : ∀ (l' : List (Nat × Int)), (∀ x ∈ l', x ∈ l) → addAll tr q l' = tr
 | [], _ => rfl
 | x :: l', h => by
  show addAll (addTr tr q x.1 x.2) q l' = tr
  rw [addTr_same nd hm u (h x mem0)]
  exact addAll_same nd hm u l' fun y hy => h y (.tail _ hy)
inductive Below (S : Reg) : List Nat → List AN → Int → List (List Nat) → List (List Nat) → Prop
 | nil {V : List (List Nat)} : Below S [] [] 0 V V
 | cons {w : List Nat} {c : Nat} {p : AN} {r : List AN} {n : Int} {lc : List (Nat × Int)} {A V X : List (List Nat)} : p.l = lc ++ [(c, n)] → upL p.l → Den S lc A → Below S w r p.n (eps p.fin ++ A ++ V.map (c :: ·)) X → Below S (w ++ [c]) (p :: r) n V X
theorem Below.mono {S S' : Reg} {w r n V X} (h : Below S w r n V X) (s : ∀ e ∈ S, e ∈ S') : Below S' w r n V X := by
 induction h with
 | nil => exact .nil
 | cons a b c _ ih => exact .cons a b (c.mono s) ih
theorem Below.len {S : Reg} {w r n V X} (h : Below S w r n V X) : w.length = r.length := by
 induction h with
 | nil => rfl
 | cons _ _ _ _ ih => simp [ih]
theorem Below.mem {S : Reg} {w r n V X} (h : Below S w r n V X) : ∀ u ∈ V, w ++ u ∈ X := by
 induction h with
 | nil => exact fun u hu => hu
 | @cons w c p r n lc A V X _ _ _ _ ih =>
  intro u hu
  rw [List.append_assoc]
  exact ih (c :: u) (memR (List.mem_map_of_mem hu))
theorem Below.size {S : Reg} {w r n V X} (h : Below S w r n V X) : V.length ≤ X.length := by
 induction h with
 | nil => exact Nat.le_refl _
 | cons _ _ _ _ ih => simp only [List.length_append, List.length_map] at ih; lia
theorem Below.snoc {S : Reg} {w r n V X} (h : Below S w r n V X) : ∀ (Y : List (List Nat)), Below S w r n (V ++ Y) (X ++ Y.map (w ++ ·)) := by
 induction h with
 | @nil V =>
  intro Y
  have : Y.map (([] : List Nat) ++ ·) = Y := by simp
  rw [this]; exact .nil
 | @cons w c p r n lc A V X a b d _ ih =>
  intro Y
  have := ih (Y.map (c :: ·))
  refine .cons a b d ?_
  have e : eps p.fin ++ A ++ (V ++ Y).map (c :: ·) = (eps p.fin ++ A ++ V.map (c :: ·)) ++ Y.map (c :: ·) := by rw [List.map_append, List.append_assoc (eps p.fin ++ A)]
  rw [e]
  have e2 : Y.map ((w ++ [c]) ++ ·) = (Y.map (c :: ·)).map (w ++ ·) := by
   rw [List.map_map]; apply List.map_congr_left; intro u _; simp
  rw [e2]
  exact this
theorem lookup_key {S : Reg} {k : List (Nat × Int) × Bool} : (∃ i, S.lookup k = some i ∧ (k, i) ∈ S) ∨ (S.lookup k = none ∧ ∀ i, (k, i) ∉ S) := by
 induction S with
 | nil => exact .inr ⟨rfl, fun _ => List.not_mem_nil⟩
 | cons e S ih =>
  obtain ⟨k', j⟩ := e
  rw [List.lookup_cons]
  by_cases h : k = k'
  ·subst h
   exact .inl ⟨j, by simp, mem0⟩
  ·rw [beq_false_of_ne h]
   rcases ih with zc | ⟨h1, h2⟩
   ·obtain ⟨i, h1, h2⟩ := zc
    exact .inl ⟨i, h1, List.mem_cons_of_mem _ h2⟩
   ·refine .inr ⟨h1, fun i hi => ?_⟩
    rcases List.mem_cons.mp hi with z | z
    ·exact h (congrArg Prod.fst z)
    ·exact h2 i z
end
section
structure BInv (W : List (List Nat)) (w : List Nat) (N : Nat) (a : Ab) (top : AN) (rest : List AN) (A : List (List Nat)) : Prop where
 ns : a.ns = top :: rest
 fin : a.fin = Reg.fin a.seen
 tr : a.tr = Reg.tr a.seen
 ok : Reg.Ok a.seen
 den : Den a.seen top.l A
 up : upL top.l
 below : Below a.seen w rest top.n (eps top.fin ++ A) W
 nd : (a.seen.map (·.2) ++ a.ns.map (·.n)).Nodup
 rng : ∀ x ∈ a.seen.map (·.2) ++ a.ns.map (·.n), 0 ≤ x ∧ x ≤ (N : Int)
 all : ∀ e ∈ a.seen, ∃ R, Lang a.seen e.2 R
 sub : ∀ i R, Lang a.seen i R → ∃ p, p ≠ [] ∧ ∀ u ∈ R, p ++ u ∈ W
 tgt : ∀ e ∈ a.seen, (∃ e' ∈ a.seen, ∃ c, (c, e.2) ∈ e'.1.1) ∨ ∃ nd ∈ a.ns, ∃ c, (c, e.2) ∈ nd.l
 small : ∀ e ∈ a.seen, e.1.1.length ≤ W.length
theorem pigeon : ∀ (M : Nat) (l : List Nat), l.Nodup → (∀ x ∈ l, x < M) → l.length ≤ M
 | 0, l, _, h => by
  cases l with
  | nil => exact Nat.le_refl _
  | cons x l => exact absurd (h x mem0) (Nat.not_lt_zero _)
 | M + 1, l, nd, h => by
  by_cases hm : M ∈ l
  ·have h1 := pigeon M (l.erase M) (nd.erase M) fun x hx => by
    have h2 := h x (List.mem_of_mem_erase hx)
    have h3 : x ≠ M := fun z => by subst z; exact nd.not_mem_erase hx
    lia
   rw [List.length_erase_of_mem hm] at h1
   lia
  ·have := pigeon M l nd fun x hx => by
    have h2 := h x hx
    have h3 : x ≠ M := fun z => hm (z ▸ hx)
    lia
   lia
theorem range_len : ∀ (N : Nat) (l : List Int), l.Nodup → (∀ x ∈ l, 0 ≤ x ∧ x ≤ (N : Int)) → l.length ≤ N + 1 := by
 intro N l nd h
 have hsub : ∀ x ∈ l.map Int.toNat, x ∈ List.range (N + 1) := by
  intro x hx
  obtain ⟨y, hy, rfl⟩ := List.mem_map.mp hx
  have := h y hy
  rw [List.mem_range]; lia
 have hn : (l.map Int.toNat).Nodup := by
  refine List.pairwise_map.mpr (List.Pairwise.imp_of_mem (fun {a b} ha hb hab z => hab ?_) nd)
  have h1 := h a ha
  have h2 := h b hb
  lia
 have := pigeon (N + 1) _ hn fun x hx => List.mem_range.mp (hsub x hx)
 simpa using this
section
variable {W : List (List Nat)} {w : List Nat} {N : Nat} {a : Ab} {top : AN} {rest : List AN} {A : List (List Nat)}
theorem BInv.count (B : BInv W w N a top rest A) : a.seen.length + a.ns.length ≤ N + 1 := by
 have := range_len N _ B.nd B.rng
 simpa using this
theorem BInv.trlen (B : BInv W w N a top rest A) : a.tr.length ≤ a.seen.length := by
 rw [B.tr]; unfold Reg.tr; rw [List.length_map]; exact List.length_filter_le _ _
theorem BInv.finlen (B : BInv W w N a top rest A) : a.fin.length ≤ a.seen.length := by
 rw [B.fin]; unfold Reg.fin; rw [List.length_map]; exact List.length_filter_le _ _
theorem BInv.inn (B : BInv W w N a top rest A) : ∀ x ∈ a.tr, x.2.length ≤ W.length := by
 intro x hx
 rw [B.tr] at hx
 obtain ⟨e, he, rfl⟩ := List.mem_map.mp hx
 exact B.small e (List.mem_filter.mp he).1
theorem BInv.toplen (B : BInv W w N a top rest A) : top.l.length ≤ W.length := by
 have h1 := B.den.length
 have h2 := B.below.size
 simp only [List.length_append] at h2
 lia
theorem below_lens {S : Reg} {w r n V X} (h : Below S w r n V X) : ∀ p ∈ r, p.l.length ≤ X.length + 1 := by
 induction h with
 | nil => intro p hp; exact absurd hp List.not_mem_nil
 | @cons w c p r n lc A V X h1 _ h3 h4 ih =>
  intro q hq
  rcases List.mem_cons.mp hq with rfl | hq
  ·have := h3.length
   have := h4.size
   rw [h1]
   simp only [List.length_append, List.length_map, List.length_cons, List.length_nil] at *
   lia
  ·exact ih q hq
theorem BInv.good (B : BInv W w N a top rest A) (hN : N ≤ 600) (hW : W.length ≤ 60) : a.Good := by
 have h1 := B.count
 have h2 := B.trlen
 have h3 := B.finlen
 refine ⟨by lia, by lia, by lia, fun x hx => by have := B.inn x hx; lia, by lia, fun nd r e => ?_, fun nd p r e => ?_⟩
 ·rw [B.ns] at e; cases e
  exact ⟨B.up, by have := B.toplen; lia⟩
 ·rw [B.ns] at e; cases e
  have := below_lens B.below p mem0
  lia
theorem BInv.room (B : BInv W w N a top rest A) (hN : N ≤ 600) (hW : W.length ≤ 60) : a.Room := by
 have h1 := B.count
 refine ⟨by lia, fun p hp => ?_⟩
 rw [B.ns] at hp
 rcases List.mem_cons.mp hp with rfl | hp
 ·have := B.toplen; lia
 ·have := below_lens B.below p hp; lia
theorem trkeys {S : Reg} (nd : (S.map (·.2)).Nodup) : ((Reg.tr S).map (·.1)).Nodup := by
 have e : (Reg.tr S).map (·.1) = (S.filter fun e => !e.1.1.isEmpty).map (·.2) := by unfold Reg.tr; rw [List.map_map]; rfl
 rw [e]
 exact (List.filter_sublist.map _).nodup nd
theorem reg_new {S : Reg} (ok : Reg.Ok S) {l : List (Nat × Int)} {f : Bool} {n : Int} (hk : ∀ i, ((l, f), i) ∉ S) (hn : n ∉ S.map (·.2)) (u : upL l) : Reg.Ok (S ++ [((l, f), n)]) := by
 refine ⟨fun k i j h1 h2 => ?_, fun k k' i h1 h2 => ?_, fun e he => ?_⟩
 ·rcases List.mem_append.mp h1 with h1 | h1 <;> rcases List.mem_append.mp h2 with h2 | h2
  ·exact ok.key k i j h1 h2
  ·simp at h2; exact absurd (h2.1 ▸ h1) (hk i)
  ·simp at h1; exact absurd (h1.1 ▸ h2) (hk j)
  ·simp at h1 h2; rw [h1.2, h2.2]
 ·rcases List.mem_append.mp h1 with h1 | h1 <;> rcases List.mem_append.mp h2 with h2 | h2
  ·exact ok.num k k' i h1 h2
  ·simp at h2; exact absurd (List.mem_map.mpr ⟨_, h1, h2.2⟩) hn
  ·simp at h1; exact absurd (List.mem_map.mpr ⟨_, h2, h1.2⟩) hn
  ·simp at h1 h2; rw [h1.1, h2.1]
 ·rcases List.mem_append.mp he with he | he
  ·exact ok.up e he
  ·rw [List.mem_singleton.mp he]; exact u
theorem regtr_new (S : Reg) (l : List (Nat × Int)) (f : Bool) (n : Int) : Reg.tr (S ++ [((l, f), n)]) = if l = [] then Reg.tr S else Reg.tr S ++ [(n, l)] := by
 unfold Reg.tr
 rw [List.filter_append, List.map_append]
 cases l with
 | nil => simp
 | cons x l => simp
theorem regfin_new (S : Reg) (l : List (Nat × Int)) (f : Bool) (n : Int) : Reg.fin (S ++ [((l, f), n)]) = if f then Reg.fin S ++ [n] else Reg.fin S := by
 unfold Reg.fin
 rw [List.filter_append, List.map_append]
 cases f with
 | true => simp
 | false => simp
theorem pop_new (B : BInv W w N a top rest A) {last : List Nat} (hl : a.seen.lookup (top.l, top.fin) = none) :
  a.pop last = some ⟨Reg.fin (a.seen ++ [((top.l, top.fin), top.n)]), a.seen ++ [((top.l, top.fin), top.n)], Reg.tr (a.seen ++ [((top.l, top.fin), top.n)]), rest⟩ := by
 have hnd := B.nd
 rw [List.nodup_append] at hnd
 have hn : top.n ∉ a.seen.map (·.2) := fun z => hnd.2.2 _ z top.n (by rw [B.ns]; exact mem0) rfl
 unfold Ab.pop
 rw [B.ns]
 simp only [hl]
 rw [regfin_new, regtr_new, ← B.fin, ← B.tr]
 congr 2
 cases hl' : top.l with
 | nil => rfl
 | cons x l =>
  rw [if_neg (by simp)]
  have u := B.up
  rw [hl'] at u
  refine addAll_new (fun y hy z => hn ?_) x l u
  rw [B.tr] at hy
  obtain ⟨e, he, rfl⟩ := List.mem_map.mp hy
  exact List.mem_map.mpr ⟨e, (List.mem_filter.mp he).1, z⟩
theorem pop_old (B : BInv W w N a top rest A) {last : List Nat} {this : Int} (hl : a.seen.lookup (top.l, top.fin) = some this) (hm : ((top.l, top.fin), this) ∈ a.seen) {p : AN} {r : List AN} (hr : rest = p :: r) {c : Nat} (hc : last[r.length]? = some c) :
  a.pop last = some { a with ns := { p with l := putK p.l c this } :: r } := by
 unfold Ab.pop
 rw [B.ns, hr]
 simp only [hl, hc]
 have hnd := B.nd
 rw [List.nodup_append] at hnd
 have e : addAll a.tr this top.l = a.tr := by
  cases hl' : top.l with
  | nil => rfl
  | cons x l =>
   rw [B.tr]
   refine addAll_same (trkeys hnd.1) (l := top.l) (List.mem_map.mpr ⟨_, List.mem_filter.mpr ⟨hm, ?_⟩, rfl⟩) B.up _ fun y hy => by rw [hl']; exact hy
   rw [hl']; rfl
 rw [e]
theorem lang_back {S : Reg} {k : List (Nat × Int) × Bool} {n : Int} (ok : Reg.Ok (S ++ [(k, n)])) (all : ∀ e ∈ S, ∃ R, Lang S e.2 R) {i : Int} {R : List (List Nat)} (h : Lang (S ++ [(k, n)]) i R) (hi : i ≠ n) : Lang S i R := by
 obtain ⟨key, hk⟩ := h.mem
 rcases List.mem_append.mp hk with hk | hk
 ·obtain ⟨R', hR'⟩ := all _ hk
  have := h.func ok (hR'.mono fun e he => memL he)
  rw [this]; exact hR'
 ·simp at hk; exact absurd hk.2 hi
theorem pop_step (B : BInv W w N a top rest A) (ne : eps top.fin ++ A ≠ []) {last : List Nat} (hw : w = last.take rest.length) {p : AN} {r : List AN} (hr : rest = p :: r) :
  ∃ b top' A' w', a.pop last = some b ∧ BInv W w' N b top' r A' ∧ eps top'.fin ++ A' ≠ [] ∧ w' = last.take r.length ∧ ∀ c, last[r.length]? = some c → ∀ x ∈ top'.l, x.1 ≤ c := by
 have hbel := B.below
 subst hr
 generalize hww : w = w0 at hbel
 cases hbel with
 | @cons w' c _ _ _ lc Ap _ _ h1 h2 h3 h4 =>
 have hlen : w'.length = r.length := h4.len
 have hlast : w' = last.take r.length ∧ last[r.length]? = some c := by
  rw [hww] at hw
  have h5 := congrArg (fun x => x[r.length]?) hw
  have h6 := congrArg (List.take r.length) hw
  simp only [List.length_cons] at h5 h6
  rw [List.getElem?_append_right (by lia), hlen, Nat.sub_self, List.getElem?_take] at h5
  rw [List.take_append_of_le_length (by lia), List.take_of_length_le (by lia), List.take_take] at h6
  refine ⟨by rw [h6]; congr 1; lia, ?_⟩
  simpa using h5.symm
 have hkeys : ∀ x ∈ lc, x.1 < c := by rw [h1] at h2; exact (upL_init h2).2
 have hnd := B.nd
 rw [B.ns, List.map_cons, List.map_cons] at hnd
 rcases lookup_key (S := a.seen) (k := (top.l, top.fin)) with ⟨this, hl, hm⟩ | ⟨hl, hno⟩
 ·have hput : putK p.l c this = lc ++ [(c, this)] := by rw [h1]; exact putK_last fun x hx => Nat.ne_of_lt (hkeys x hx)
  have hL : Lang a.seen this (eps top.fin ++ A) := ⟨top.l, top.fin, A, hm, B.den, rfl, ne⟩
  have hu : upL (lc ++ [(c, this)]) := upL_snoc (upL_init (h1 ▸ h2)).1 hkeys
  refine (exI4 _ ({ p with l := putK p.l c this }) (Ap ++ (eps top.fin ++ A).map (c :: ·)) w' (anI5 (pop_old B hl hm rfl hlast.2) ⟨rfl, B.fin, B.tr, B.ok, ?_, ?_, ?_, ?_, ?_, B.all, B.sub, ?_, B.small⟩ ?_ hlast.1 ?_))
  ·show Den a.seen (putK p.l c this) _
   rw [hput]
   exact h3.snoc hL
  ·show upL (putK p.l c this)
   rw [hput]; exact hu
  ·show Below a.seen w' r p.n _ W
   rw [← List.append_assoc]; exact h4
  ·have : (a.seen.map (·.2) ++ p.n :: r.map (·.n)).Sublist (a.seen.map (·.2) ++ top.n :: p.n :: r.map (·.n)) := List.Sublist.append_left (List.sublist_cons_self _ _) _
   exact this.nodup hnd
  ·intro x hx
   refine B.rng x ?_
   rw [B.ns]
   rcases List.mem_append.mp hx with hx | hx
   ·exact memL hx
   ·exact memR (.tail _ hx)
  ·intro e he
   rcases B.tgt e he with h | ⟨nd, hnd', c', hc'⟩
   ·exact .inl h
   ·rw [B.ns] at hnd'
    rcases List.mem_cons.mp hnd' with rfl | hnd'
    ·exact .inl ⟨_, hm, c', hc'⟩
    ·rcases List.mem_cons.mp hnd' with rfl | hnd'
     ·rw [h1] at hc'
      rcases List.mem_append.mp hc' with hc' | hc'
      ·exact .inr ⟨_, mem0, c', by show (c', e.2) ∈ putK nd.l c this; rw [hput]; exact memL hc'⟩
      ·simp at hc'
       exfalso
       rw [List.nodup_append] at hnd
       exact hnd.2.2 e.2 (List.mem_map_of_mem he) top.n mem0 hc'.2
     ·exact .inr ⟨nd, List.mem_cons_of_mem _ hnd', c', hc'⟩
  ·intro z
   rw [← List.append_assoc] at z
   have := (List.append_eq_nil_iff.mp z).2
   exact ne (List.map_eq_nil_iff.mp this)
  ·intro c' hc' x hx
   rw [hlast.2] at hc'
   cases hc'
   have hx' : x ∈ putK p.l c this := hx
   rw [hput] at hx'
   rcases List.mem_append.mp hx' with hx' | hx'
   ·exact Nat.le_of_lt (hkeys x hx')
   ·rw [List.mem_singleton.mp hx']; exact Nat.le_refl _
 ·have hn : top.n ∉ a.seen.map (·.2) := fun z => by
   rw [List.nodup_append] at hnd
   exact hnd.2.2 _ z top.n mem0 rfl
  have ok' := reg_new B.ok hno hn B.up
  have mono : ∀ e ∈ a.seen, e ∈ a.seen ++ [((top.l, top.fin), top.n)] := fun e he => memL he
  have hL : Lang (a.seen ++ [((top.l, top.fin), top.n)]) top.n (eps top.fin ++ A) := ⟨top.l, top.fin, A, memR mem0, B.den.mono mono, rfl, ne⟩
  refine (exI4 _ p (Ap ++ (eps top.fin ++ A).map (c :: ·)) w' (anI5 (pop_new B hl) ⟨rfl, rfl, rfl, ok', ?_, h2, ?_, ?_, ?_, ?_, ?_, ?_, ?_⟩ ?_ hlast.1 ?_))
  ·rw [h1]
   exact (h3.mono mono).snoc hL
  ·rw [← List.append_assoc]; exact h4.mono mono
  ·show ((a.seen ++ [((top.l, top.fin), top.n)]).map (·.2) ++ (p :: r).map (·.n)).Nodup
   rw [List.map_append, List.append_assoc]
   exact hnd
  ·intro x hx
   refine B.rng x ?_
   rw [B.ns]
   rw [List.map_append, List.append_assoc] at hx
   exact hx
  ·intro e he
   rcases List.mem_append.mp he with he | he
   ·obtain ⟨R, hR⟩ := B.all e he
    exact ⟨R, hR.mono mono⟩
   ·rw [List.mem_singleton.mp he]; exact ⟨_, hL⟩
  ·intro i R hR
   by_cases hi : i = top.n
   ·subst hi
    rw [hR.func ok' hL]
    refine ⟨w, ?_, B.below.mem⟩
    rw [hww]; simp
   ·exact B.sub i R (lang_back ok' B.all hR hi)
  ·intro e he
   rcases List.mem_append.mp he with he | he
   ·rcases B.tgt e he with ⟨e', he', h⟩ | ⟨nd, hnd', c', hc'⟩
    ·exact .inl ⟨e', mono _ he', h⟩
    ·rw [B.ns] at hnd'
     rcases List.mem_cons.mp hnd' with rfl | hnd'
     ·exact .inl ⟨_, memR mem0, c', hc'⟩
     ·exact .inr ⟨nd, hnd', c', hc'⟩
   ·rw [List.mem_singleton.mp he]
    exact .inr ⟨p, mem0, c, by rw [h1]; exact memR mem0⟩
  ·intro e he
   rcases List.mem_append.mp he with he | he
   ·exact B.small e he
   ·rw [List.mem_singleton.mp he]; exact B.toplen
  ·intro z
   rw [← List.append_assoc] at z
   have := (List.append_eq_nil_iff.mp z).2
   exact ne (List.map_eq_nil_iff.mp this)
  ·intro c' hc' x hx
   rw [hlast.2] at hc'
   cases hc'
   rw [h1] at hx
   rcases List.mem_append.mp hx with hx | hx
   ·exact Nat.le_of_lt (hkeys x hx)
   ·rw [List.mem_singleton.mp hx]; exact Nat.le_refl _
end
end
section
section
variable {W : List (List Nat)} {N : Nat} {last : List Nat}
theorem BInv.nslen {w a top rest A} (B : BInv W w N a top rest A) : a.ns.length = rest.length + 1 := by rw [B.ns]; rfl
theorem pops_to (hN : N ≤ 600) (hW : W.length ≤ 60) : ∀ (k : Nat) {w a top rest A}, BInv W w N a top rest A → eps top.fin ++ A ≠ [] → w = last.take rest.length → (∀ c, last[rest.length]? = some c → ∀ x ∈ top.l, x.1 ≤ c) → ∀ downto, rest.length = downto + k →
  ∃ b top' rest' A' w', Pops last (downto + 1) a b ∧ BInv W w' N b top' rest' A' ∧ w' = last.take rest'.length ∧ rest'.length = downto ∧ ∀ c, last[rest'.length]? = some c → ∀ x ∈ top'.l, x.1 ≤ c := by
 intro k
 induction k with
 | zero =>
  intro w a top rest A B ne hw hc downto hd
  exact (exI5 a top rest A w (anI5 (.done (by rw [B.nslen, hd]; lia)) B hw (by lia) hc))
 | succ k ih =>
  intro w a top rest A B ne hw hc downto hd
  cases rest with
  | nil => simp at hd
  | cons p r =>
   (refine exE4 (pop_step B ne hw rfl) fun b top' A' w' zr1 => anE5 zr1 fun hp B' ne' hw' hc' => ?_; clear zr1)
   (refine exE5 (ih B' ne' hw' hc' downto (by simp at hd; lia)) fun b2 top2 rest2 A2 w2 zr2 => anE2 zr2 fun h1 h2 => ?_; clear zr2)
   exact (exI5 b2 top2 rest2 A2 w2 ⟨(.step (by rw [B.nslen]; simp at hd ⊢; lia) (B.good hN hW) hp h1), h2⟩)
theorem root_pop {w a top A M} (B : BInv W w N a top [] A) (hW : W.length ≤ 60) (hM : ∀ x ∈ W, x.length ≤ M) (ne : eps top.fin ++ A ≠ []) : ∃ b, a.pop last = some b ∧ b.ns = [] ∧ Reg.Done b.seen W M ∧ b.fin = Reg.fin b.seen ∧ b.tr = Reg.tr b.seen ∧ b.seen.length ≤ N + 1 ∧ ∀ e ∈ b.seen, e.1.1.length ≤ W.length := by
 have hbel := B.below
 generalize hn0 : top.n = n0 at hbel
 generalize hV : eps top.fin ++ A = V at hbel
 cases hbel
 have hWne : W ≠ [] := by rw [← hV]; exact ne
 rcases lookup_key (S := a.seen) (k := (top.l, top.fin)) with ⟨this, hl, hm⟩ | ⟨hl, hno⟩
 ·exfalso
  have hL : Lang a.seen this W := ⟨top.l, top.fin, A, hm, B.den, hV.symm, hWne⟩
  obtain ⟨p, hp, hu⟩ := B.sub _ _ hL
  obtain ⟨u, huW, hmax⟩ := longest hWne
  have := hmax _ (hu u huW)
  have : 0 < p.length := List.length_pos_iff.mpr hp
  simp at *
  lia
 ·have hnd := B.nd
  rw [B.ns, List.map_cons, List.map_nil] at hnd
  have hn : top.n ∉ a.seen.map (·.2) := fun z => by
   rw [List.nodup_append] at hnd
   exact hnd.2.2 _ z top.n mem0 rfl
  have ok' := reg_new B.ok hno hn B.up
  have mono : ∀ e ∈ a.seen, e ∈ a.seen ++ [((top.l, top.fin), top.n)] := fun e he => memL he
  have hL : Lang (a.seen ++ [((top.l, top.fin), top.n)]) top.n W := ⟨top.l, top.fin, A, memR mem0, B.den.mono mono, hV.symm, hWne⟩
  refine ⟨_, (anI7 (pop_new B hl) rfl ⟨ok', ?_, fun e he => ?_, fun e he => ?_, hn0 ▸ hL, fun i R hR => ?_, fun e he => ?_, hM⟩ rfl rfl (by have := B.count; rw [B.ns] at this; simpa using this) (fun e he => ?_))⟩
  ·show ((a.seen ++ [((top.l, top.fin), top.n)]).map (·.2)).Nodup
   rw [List.map_append]
   exact hnd
  ·rcases List.mem_append.mp he with he | he
   ·have := B.small e he; lia
   ·rw [List.mem_singleton.mp he]
    have := B.toplen
    show top.l.length < 64
    lia
  ·rcases List.mem_append.mp he with he | he
   ·obtain ⟨R, hR⟩ := B.all e he
    exact ⟨R, hR.mono mono⟩
   ·rw [List.mem_singleton.mp he]; exact ⟨_, hL⟩
  ·by_cases hi : i = top.n
   ·subst hi
    rw [hR.func ok' hL]
    exact ⟨[], fun u hu => hu⟩
   ·obtain ⟨p, _, hp⟩ := B.sub i R (lang_back ok' B.all hR hi)
    exact ⟨p, hp⟩
  ·rcases List.mem_append.mp he with he | he
   ·rcases B.tgt e he with ⟨e', he', h⟩ | ⟨nd, hnd', c', hc'⟩
    ·exact .inr ⟨e', mono _ he', h⟩
    ·rw [B.ns] at hnd'
     rw [List.mem_singleton.mp hnd'] at hc'
     exact .inr ⟨_, memR mem0, c', hc'⟩
   ·rw [List.mem_singleton.mp he]
    exact .inl hn0
  ·rcases List.mem_append.mp he with he | he
   ·exact B.small e he
   ·rw [List.mem_singleton.mp he]; exact B.toplen
theorem pops_all (hN : N ≤ 600) (hW : W.length ≤ 60) {M : Nat} (hM : ∀ x ∈ W, x.length ≤ M) {w a top rest A} (B : BInv W w N a top rest A) (ne : eps top.fin ++ A ≠ []) (hw : w = last.take rest.length) :
  ∃ b, Pops last 0 a b ∧ Reg.Done b.seen W M ∧ b.fin = Reg.fin b.seen ∧ b.tr = Reg.tr b.seen ∧ b.seen.length ≤ N + 1 ∧ ∀ e ∈ b.seen, e.1.1.length ≤ W.length := by
 have go : ∀ (k : Nat) {w a top rest A}, rest.length = k → BInv W w N a top rest A → eps top.fin ++ A ≠ [] → w = last.take rest.length → ∃ b, Pops last 0 a b ∧ Reg.Done b.seen W M ∧ b.fin = Reg.fin b.seen ∧ b.tr = Reg.tr b.seen ∧ b.seen.length ≤ N + 1 ∧ ∀ e ∈ b.seen, e.1.1.length ≤ W.length := by
  intro k
  induction k with
  | zero =>
   intro w a top rest A hk B ne hw
   obtain rfl := List.length_eq_zero_iff.mp hk
   (refine Exists.elim (root_pop (last := last) B hW hM ne) fun b zr3 => anE3 zr3 fun h1 h2 h3 => ?_; clear zr3)
   exact ⟨b, .step (by rw [B.nslen]; lia) (B.good hN hW) h1 (.done (by rw [h2]; exact Nat.le_refl _)), h3⟩
  | succ k ih =>
   intro w a top rest A hk B ne hw
   cases rest with
   | nil => simp at hk
   | cons p r =>
    (refine exE4 (pop_step B ne hw rfl) fun b top' A' w' zr4 => anE5 zr4 fun hp B' ne' hw' _ => ?_; clear zr4)
    obtain ⟨b2, h1, h2⟩ := ih (by simpa using hk) B' ne' hw'
    exact ⟨b2, .step (by rw [B.nslen]; lia) (B.good hN hW) hp h1, h2⟩
 exact go _ rfl B ne hw
theorem push_ok : ∀ (ws : List Nat) {w : List Nat} {N : Nat} {a : Ab} {top : AN} {rest : List AN} {A : List (List Nat)}, BInv W w N a top rest A → (∀ x ∈ top.l, ∀ y, ws.head? = some y → x.1 < y) → (ws ≠ [] ∨ (A = [] ∧ top.fin = false)) →
  ∃ top' rest' , BInv W (w ++ ws) (N + ws.length) { a with ns := pushL a.ns N ws } top' rest' [] ∧ top'.fin = false ∧ top'.l = [] ∧ rest'.length = rest.length + ws.length := by
 intro ws
 induction ws with
 | nil =>
  intro w N a top rest A B _ h
  obtain ⟨rfl, hf⟩ := h.resolve_left (fun z => z rfl)
  refine (exI2 top rest (anI4 ?_ hf ?_ rfl))
  ·have e : ({ a with ns := pushL a.ns N [] } : Ab) = a := by
    have : pushL a.ns N [] = a.ns := by unfold pushL; cases a.ns <;> rfl
    rw [this]
   rw [e, List.append_nil]
   exact B
  ·have := B.den.length
   exact List.length_eq_zero_iff.mp (Nat.le_zero.mp this)
 | cons x ws ih =>
  intro w N a top rest A B hx _
  have hk : ∀ y ∈ top.l, y.1 < x := fun y hy => hx y hy x rfl
  have hput : putK top.l x (N + 1) = top.l ++ [(x, (N : Int) + 1)] := putK_new fun y hy => Nat.ne_of_lt (hk y hy)
  have hnd := B.nd
  rw [B.ns] at hnd
  have hnew : (N : Int) + 1 ∉ a.seen.map (·.2) ++ (top :: rest).map (·.n) := fun z => by
   have := (B.rng _ (by rw [B.ns]; exact z)).2
   lia
  have B1 : BInv W (w ++ [x]) (N + 1) { a with ns := ⟨N + 1, false, []⟩ :: { top with l := putK top.l x (N + 1) } :: rest } ⟨N + 1, false, []⟩ ({ top with l := putK top.l x (N + 1) } :: rest) [] := by
   refine ⟨rfl, B.fin, B.tr, B.ok, .nil, List.Pairwise.nil, ?_, ?_, ?_, B.all, B.sub, ?_, B.small⟩
   ·refine .cons (lc := top.l) (A := A) hput ?_ B.den ?_
    ·show upL (putK top.l x (N + 1))
     rw [hput]; exact upL_snoc B.up hk
    ·show Below a.seen w rest top.n (eps top.fin ++ A ++ ([] : List (List Nat)).map _) W
     rw [List.map_nil, List.append_nil]
     exact B.below
   ·show (a.seen.map (·.2) ++ ((N : Int) + 1) :: (top :: rest).map (·.n)).Nodup
    rw [List.nodup_append] at hnd ⊢
    refine (anI3 hnd.1 (List.nodup_cons.mpr ⟨fun z => hnew (memR z), hnd.2.1⟩) (fun y hy z hz e => ?_))
    rcases List.mem_cons.mp hz with rfl | hz
    ·exact hnew (memL (e ▸ hy))
    ·exact hnd.2.2 y hy z hz e
   ·intro y hy
    have hy' : y ∈ a.seen.map (·.2) ++ ((N : Int) + 1) :: (top :: rest).map (·.n) := hy
    rcases List.mem_append.mp hy' with h | h
    ·have := B.rng y (memL h); lia
    ·rcases List.mem_cons.mp h with rfl | h
     ·lia
     ·have := B.rng y (memR (by rw [B.ns]; exact h)); lia
   ·intro e he
    rcases B.tgt e he with h | ⟨nd, hnd', c', hc'⟩
    ·exact .inl h
    ·rw [B.ns] at hnd'
     rcases List.mem_cons.mp hnd' with rfl | hnd'
     ·refine .inr ⟨_, List.mem_cons_of_mem _ mem0, c', ?_⟩
      show (c', e.2) ∈ putK nd.l x (N + 1)
      rw [hput]; exact memL hc'
     ·exact .inr ⟨nd, List.mem_cons_of_mem _ (.tail _ hnd'), c', hc'⟩
  (refine exE2 (ih B1 (fun y hy => absurd hy List.not_mem_nil) (.inr ⟨rfl, rfl⟩)) fun top' rest' zr5 => anE4 zr5 fun h1 h2 h3 h4 => ?_; clear zr5)
  refine (exI2 top' rest' (anI4 ?_ h2 h3 (by rw [h4]; simp; lia)))
  have e1 : w ++ x :: ws = w ++ [x] ++ ws := by simp
  have e2 : N + (x :: ws).length = N + 1 + ws.length := by simp; lia
  have e3 : pushL a.ns N (x :: ws) = pushL (⟨N + 1, false, []⟩ :: { top with l := putK top.l x (N + 1) } :: rest) ((N + 1 : Nat) : Int) ws := by
   rw [B.ns]; rfl
  rw [e1, e2, e3]
  exact h1
theorem fin_ok {w : List Nat} {a : Ab} {top : AN} {rest : List AN} (B : BInv W w N a top rest []) (hf : top.fin = false) (hl : top.l = []) :
  BInv (W ++ [w]) w N { a with ns := finTop a.ns } { top with fin := true } rest [] := by
 have e : finTop a.ns = { top with fin := true } :: rest := by rw [B.ns]; rfl
 refine ⟨e, B.fin, B.tr, B.ok, B.den, B.up, ?_, ?_, ?_, B.all, fun i R hR => ?_, fun e' he => ?_, fun e' he => ?_⟩
 ·have := B.below.snoc [[]]
  rw [hf] at this
  have e2 : ([[]] : List (List Nat)).map (w ++ ·) = [w] := by simp
  rw [e2] at this
  exact this
 ·show (a.seen.map (·.2) ++ (finTop a.ns).map (·.n)).Nodup
  rw [e]
  have := B.nd
  rw [B.ns] at this
  exact this
 ·intro x hx
  refine B.rng x ?_
  rw [B.ns]
  rw [show ({ a with ns := finTop a.ns } : Ab).ns = finTop a.ns from rfl, e] at hx
  exact hx
 ·obtain ⟨p, hp, h⟩ := B.sub i R hR
  exact ⟨p, hp, fun u hu => memL (h u hu)⟩
 ·rcases B.tgt e' he with h | ⟨nd, hnd', c', hc'⟩
  ·exact .inl h
  ·refine .inr ?_
   rw [B.ns] at hnd'
   rw [show ({ a with ns := finTop a.ns } : Ab).ns = finTop a.ns from rfl, e]
   rcases List.mem_cons.mp hnd' with rfl | hnd'
   ·exact ⟨_, mem0, c', hc'⟩
   ·exact ⟨nd, List.mem_cons_of_mem _ hnd', c', hc'⟩
 ·have := B.small e' he
  rw [List.length_append]
  lia
end
end
section
noncomputable def inOrder : List Nat → List (List Nat) → Prop
 | _, [] => True
 | l, w :: ws => l < w ∧ inOrder w ws
theorem lcp_facts : ∀ {a b : List Nat}, a < b → lcp a b < b.length ∧ lcp a b ≤ a.length ∧ a.take (lcp a b) = b.take (lcp a b) ∧ ∀ x y, a[lcp a b]? = some x → b[lcp a b]? = some y → x < y
 | [], [], h => absurd h (List.not_lt_nil _)
 | [], y :: b, _ => (anI4 (by simp [lcp]) (by simp [lcp]) (by simp [lcp]) (fun x z e => by simp [lcp] at e))
 | x :: a, [], h => absurd h (List.not_lt_nil _)
 | x :: a, y :: b, h => by
  rw [List.cons_lt_cons_iff] at h
  by_cases e : x = y
  ·subst e
   have h' : a < b := by
    rcases h with h | h
    ·exact absurd h (Nat.lt_irrefl _)
    ·exact h.2
   refine anE4 (lcp_facts h') fun h1 h2 h3 h4 => ?_
   have e1 : lcp (x :: a) (x :: b) = lcp a b + 1 := by simp [lcp]
   rw [e1]
   refine (anI4 (by simpa using h1) (by simpa using h2) (by simpa using h3) (fun u v hu hv => h4 u v (by simpa using hu) (by simpa using hv)))
  ·have e1 : lcp (x :: a) (y :: b) = 0 := by simp [lcp, e]
   rw [e1]
   refine (anI4 (by simp) (by simp) (by simp) (fun u v hu hv => ?_))
   simp at hu hv
   subst hu; subst hv
   rcases h with h | h
   ·exact h
   ·exact absurd h.1 e
structure SInv (s : Sb) (W : List (List Nat)) (N : Nat) (top : AN) (rest : List AN) : Prop where
 c : s.c = (N : Int)
 inv : BInv W s.last N s.ab top rest []
 len : rest.length = s.last.length
 l : top.l = []
 fin : (W = [] ∧ s.last = [] ∧ s.ab = Sb.init.ab) ∨ (W ≠ [] ∧ top.fin = true)
 bound : N ≤ 8 * W.length
 last8 : s.last.length ≤ 8
theorem sinv_init : SInv Sb.init [] 0 ⟨0, false, []⟩ [] where
 c := rfl
 inv := ⟨rfl, rfl, rfl, ⟨fun _ _ _ h => absurd h List.not_mem_nil, fun _ _ _ h => absurd h List.not_mem_nil, fun _ h => absurd h List.not_mem_nil⟩, .nil, List.Pairwise.nil, .nil, by decide, by decide, fun _ h => absurd h List.not_mem_nil,
  fun i R h => by obtain ⟨k, hk⟩ := h.mem; exact absurd hk List.not_mem_nil, fun _ h => absurd h List.not_mem_nil, fun _ h => absurd h List.not_mem_nil⟩
 len := rfl
 l := rfl
 fin := .inl (anI3 rfl rfl rfl)
 bound := Nat.zero_le _
 last8 := Nat.zero_le _
theorem goes_ok : ∀ (ws : List (List Nat)) {s : Sb} {W N top rest}, SInv s W N top rest → W.length + ws.length ≤ 40 → (∀ w ∈ ws, w.length ≤ 8) →
  (¬ inOrder s.last ws ∧ Goes s ws none) ∨ (inOrder s.last ws ∧ ∃ s' N' top' rest', Goes s ws (some s') ∧ SInv s' (W ++ ws) N' top' rest')
 | [], s, W, N, top, rest, I, _, _ => by
  refine .inr ⟨trivial, (exI4 s N top rest ⟨(.done ?_ (by have := I.last8; lia)), (by rw [List.append_nil]; exact I)⟩)⟩
  have h1 := I.inv.nslen
  have h2 := I.len
  have h3 := I.last8
  lia
 | w :: ws, s, W, N, top, rest, I, hn, h8 => by
  have hb := I.bound
  have h4 := I.last8
  have hlen := I.len
  have hns := I.inv.nslen
  simp only [List.length_cons] at hn
  by_cases hlt : s.last < w
  ·refine anE4 (lcp_facts hlt) fun f1 f2 f3 f4 => ?_
   have hw8 := h8 w mem0
   have hpops : ∃ b top' rest' A' w', Pops s.last (lcp s.last w + 1) s.ab b ∧ BInv W w' N b top' rest' A' ∧ w' = s.last.take rest'.length ∧ rest'.length = lcp s.last w ∧ ∀ c, s.last[rest'.length]? = some c → ∀ x ∈ top'.l, x.1 ≤ c := by
    rcases I.fin with zc | ⟨_, hf⟩
    ·(refine anE3 zc fun ze1 hl _ => ?_; clear zc; subst ze1)
     refine (exI5 s.ab top rest ([]) s.last (anI5 (.done (by rw [hns, hlen, hl]; simp)) I.inv (by rw [hlen, List.take_length]) ?_ (fun c _ x hx => ?_)))
     ·have hl0 : s.last.length = 0 := by rw [hl]; rfl
      lia
     ·rw [I.l] at hx; exact absurd hx List.not_mem_nil
    ·refine pops_to (by lia) (by lia) (s.last.length - lcp s.last w) I.inv (by rw [hf]; simp [eps]) (by rw [hlen, List.take_length]) (fun c _ x hx => ?_) _ (by lia)
     rw [I.l] at hx; exact absurd hx List.not_mem_nil
   (refine exE5 hpops fun b top' rest' A' w' zr1 => anE5 zr1 fun hp B hw' hr' hc' => ?_; clear hpops zr1)
   have hdrop : w.drop (lcp s.last w) ≠ [] := by
    intro z
    have := congrArg List.length z
    simp at this; lia
   have hx0 : ∀ x ∈ top'.l, ∀ y, (w.drop (lcp s.last w)).head? = some y → x.1 < y := by
    intro x hx y hy
    have hy' : w[lcp s.last w]? = some y := List.head?_drop ▸ hy
    cases hs : s.last[lcp s.last w]? with
    | none =>
     have : s.last.length ≤ lcp s.last w := List.getElem?_eq_none_iff.mp hs
     have hsame : rest'.length = s.last.length := by lia
     exact absurd hx (by
      intro hx
      have hden := B.den.length
      cases hp with
      | done _ =>
       have e1 := B.ns
       rw [I.inv.ns] at e1
       injection e1 with e1 e2
       rw [← e1, I.l] at hx
       exact absurd hx List.not_mem_nil
      | step hd _ _ _ => rw [hns] at hd; lia)
    | some x' =>
     have h1 := hc' x' (by rw [hr']; exact hs) x hx
     have h2 := f4 x' y hs hy'
     lia
   (refine exE2 (push_ok (w.drop (lcp s.last w)) B hx0 (.inl hdrop)) fun top2 rest2 zr2 => anE4 zr2 fun B2 hf2 hl2 hr2 => ?_; clear zr2)
   have hww : w' ++ w.drop (lcp s.last w) = w := by
    rw [hw', hr', f3, List.take_append_drop]
   rw [hww] at B2
   have B3 := fin_ok B2 hf2 hl2
   have I3 : SInv ⟨{ b with ns := finTop (pushL b.ns s.c (w.drop (lcp s.last w))) }, s.c + (w.drop (lcp s.last w)).length, w⟩ (W ++ [w]) (N + (w.drop (lcp s.last w)).length) { top2 with fin := true } rest2 := by
    rw [I.c]
    refine ⟨by simp, B3, ?_, hl2, .inr ⟨by simp, rfl⟩, ?_, hw8⟩
    ·rw [hr2, hr', List.length_drop]
     show lcp s.last w + (w.length - lcp s.last w) = w.length
     lia
    ·simp; lia
   have hns' : s.ab.ns.length ≤ 1000 := by lia
   have hroom := B.room (by lia) (by lia)
   have hbne : b.ns ≠ [] := by rw [B.ns]; simp
   rcases goes_ok ws I3 (by simp; lia) (fun x hx => h8 x (.tail _ hx)) with ⟨h1, h2⟩ | zc
   ·exact .inl ⟨fun z => h1 z.2, .step hlt (by lia) (by lia) hns' hp hbne hroom h2⟩
   ·(refine anE2 zc fun h1 zr2 => exE4 zr2 fun s' N' t' r' zr3 => anE2 zr3 fun h2 h3 => ?_; clear zc zr3 zr2)
    refine .inr ⟨⟨hlt, h1⟩, (exI4 s' N' t' r' ⟨(.step hlt (by lia) (by lia) hns' hp hbne hroom h2), ?_⟩)⟩
    rw [List.append_assoc] at h3
    exact h3
  ·exact .inl ⟨fun z => hlt z.1, .bad hlt⟩
structure DfaOk (D : Dfa) (W : List (List Nat)) (M : Nat) : Prop where
 nz : D.NoZero
 up : D.Up
 acc : ∀ l, D.acc l = decide (l ∈ W)
 deep : D.Deep (M + 1) 0
 gen : D.gen (M + 1) 0 [] = W
 states : ∀ X : List (List (List Nat)), X.Nodup → (∀ R, R ∈ X ↔ ∃ w ∈ W, ∃ k, k ≤ w.length ∧ R = resid W (w.take k)) → D.states.length = X.length
 nvs : ∀ l : List Nat, (∀ c ∈ l, c ≤ 100000) → l.length + M ≤ 400 → if D.fin (D.run 0 l) then W.find? (fun u => decide (l ≤ u)) = some l else ∃ n, n ≤ l.length + 1 + M ∧ D.Seeks n (D.trail 0 [] l).reverse (W.find? fun u => decide (l ≤ u))
 size : D.tr.length + (D.tr.flatMap fun x => x.2.map (·.2)).length ≤ 1000
theorem order_sorted : ∀ {W : List (List Nat)} {l : List Nat}, inOrder l W → (∀ w ∈ W, l < w) ∧ W.Pairwise (· < ·)
 | [], _, _ => ⟨fun _ h => absurd h List.not_mem_nil, List.Pairwise.nil⟩
 | w :: W, l, h => by
  obtain ⟨h1, h2⟩ := order_sorted h.2
  refine ⟨fun x hx => ?_, List.pairwise_cons.mpr ⟨h1, h2⟩⟩
  rcases List.mem_cons.mp hx with rfl | hx
  ·exact h.1
  ·exact List.lt_trans h.1 (h1 x hx)
theorem sorted_order : ∀ {W : List (List Nat)} {l : List Nat}, (∀ w ∈ W, l < w) → W.Pairwise (· < ·) → inOrder l W
 | [], _, _, _ => trivial
 | w :: W, l, h1, h2 => ⟨h1 w mem0, sorted_order (List.pairwise_cons.mp h2).1 (List.pairwise_cons.mp h2).2⟩
theorem flat_len {B : Nat} : ∀ (tr : List (Int × List (Nat × Int))), (∀ x ∈ tr, x.2.length ≤ B) → (tr.flatMap fun x => x.2.map (·.2)).length ≤ tr.length * B
 | [], _ => by simp
 | x :: tr, h => by
  have h1 := flat_len tr fun y hy => h y (.tail _ hy)
  have h2 := h x mem0
  simp only [List.flatMap_cons, List.length_append, List.length_map, List.length_cons, Nat.succ_mul]
  lia
theorem empty_ok (M : Nat) : DfaOk ⟨[], fun q => decide (∃ i ∈ ([] : List Int), q = some i)⟩ [] M where
 nz := fun q c h => by have h : (none : Option Int) = some _ := h; cases h
 up := fun q => ⟨List.Pairwise.nil, by show 0 < 64; decide⟩
 acc := fun l => by simp [Dfa.acc]
 deep := .mk fun c r h => by have h : (none : Option Int) = some _ := h; cases h
 gen := by simp [Dfa.gen, Dfa.labs, Dfa.arcs]
 states := fun X nX hX => by
  have : X = [] := by
   cases X with
   | nil => rfl
   | cons R X => obtain ⟨w, hw, _⟩ := (hX R).mp mem0; exact absurd hw List.not_mem_nil
  subst this; rfl
 nvs := fun l hl _ => by
  rw [if_neg (by simp)]
  cases l with
  | nil => exact ⟨1, by lia, .miss (fun _ z => by cases z) rfl .nil⟩
  | cons c l =>
   refine ⟨1, by lia, ?_⟩
   exact .miss (fun x z => by cases z; exact hl c mem0) rfl .nil
 size := by simp
end
section
theorem done_ok {S : Reg} {W : List (List Nat)} {M : Nat} (d : S.Done W M) (hne : [] ∉ W) (hs : W.Pairwise (· < ·)) (hsize : S.length ≤ 100) (hsm : ∀ e ∈ S, e.1.1.length ≤ 8) : DfaOk S.dfa W M where
 nz := noZero_of d
 up := up_of d
 acc := acc_of d
 deep := deep_of d
 gen := gen_of d
 states := fun X nX hX => by rw [states_of d hne, count_of d nX hX]
 nvs := fun l hl hlen => nvs_of d hs hl hlen
 size := by
  have h1 : S.dfa.tr.length ≤ S.length := by
   show (Reg.tr S).length ≤ _
   unfold Reg.tr; rw [List.length_map]; exact List.length_filter_le _ _
  have h2 := flat_len (B := 8) S.dfa.tr fun x hx => by
   have hx' : x ∈ Reg.tr S := hx
   obtain ⟨e, he, rfl⟩ := List.mem_map.mp hx'
   exact hsm e (List.mem_filter.mp he).1
  have h3 := Nat.mul_le_mul_right 8 h1
  lia
theorem build_ok (ws : List (List Nat)) (hn : ws.length ≤ 8) (h8 : ∀ w ∈ ws, w.length ≤ 8) :
  ∃ r, Goes Sb.init ws r ∧ (r = none ↔ ¬ inOrder [] ws) ∧ ∀ s, r = some s → ∃ a, Closes s a ∧ DfaOk ⟨a.tr, fun q => decide (∃ i ∈ a.fin, q = some i)⟩ ws 8 := by
 rcases goes_ok ws sinv_init (by simp; lia) h8 with ⟨h1, h2⟩ | zc
 ·exact ⟨none, (anI3 h2 ⟨fun _ => h1, fun _ => rfl⟩ (fun s z => by cases z))⟩
 ·(refine anE2 zc fun h1 zr1 => exE4 zr1 fun s N top rest zr2 => anE2 zr2 fun h2 I => ?_; clear zc zr2 zr1)
  refine ⟨(some s), (anI3 h2 ⟨fun z => (by cases z), fun z => absurd h1 z⟩ (fun s' z => ?_))⟩
  cases z
  rw [List.nil_append] at I
  have hb := I.bound
  have hns := I.inv.nslen
  rcases I.fin with zc | ⟨hW, hf⟩
  ·(refine anE3 zc fun ze3 hl hab => ?_; clear zc; subst ze3)
   refine ⟨s.ab, ?_, ?_⟩
   ·unfold Closes
    rw [if_neg (by rw [hns, I.len, hl]; simp)]
   ·rw [hab]; exact empty_ok 8
  ·obtain ⟨ho, hs⟩ := order_sorted h1
   have hne : [] ∉ ws := fun z => List.not_lt_nil _ (ho _ z)
   (refine Exists.elim (pops_all (last := s.last) (M := 8) (by lia) (by lia) h8 I.inv (by rw [hf]; simp [eps]) (by rw [I.len, List.take_length])) fun b zr1 => anE6 zr1 fun hp hd hfin htr hsz hsm => ?_; clear zr1)
   refine ⟨b, ?_, ?_⟩
   ·unfold Closes
    have hlast : s.last ≠ [] := by
     intro z
     have h0 := I.len
     rw [z] at h0
     have hr : rest = [] := List.length_eq_zero_iff.mp h0
     have hbel := I.inv.below
     rw [z, hr, hf] at hbel
     have := hbel.mem [] (by simp [eps])
     exact hne this
    have : 0 < s.last.length := List.length_pos_iff.mpr hlast
    have hlen := I.len
    rw [if_pos (by lia)]
    exact hp
   ·rw [hfin, htr]
    exact done_ok hd hne hs (by lia) fun e he => by have := hsm e he; lia
end
section
open PySem PySem.W PyProof.Rows
noncomputable def byText (w : World) : Bool := w.params.followText "set-order"
noncomputable def Led (w : World) (es : Array (Int × Value)) (t : SetTable) : Prop := (byText w = false → t.led = true) ∧ (0 < es.size → t.plain = false)
noncomputable def TextsAt (w : World) (h : Heap) (a : Addr) (l : List Str) : Prop := ∃ o es ep t, h.get? a = some o ∧ o.ExactSet ∧ o.data = .set es ep t ∧ ElemsOf (SK w) es.toList ∧ (∃ vs, es.toList.map (·.2) = vs ∧ ∃ ss, StrsAre vs ss ∧ ss.Perm l) ∧ l.Nodup ∧
 es.size < scanBound ∧ t.fits es.size = true ∧ Led w es t
noncomputable def addT (l : List Str) (x : Str) : List Str := if l.any (· == x) then l else l ++ [x]
theorem layNew_led (t : SetTable) (es : Array (Int × Value)) (h : Int) (x : Value) : (layNew t es h x).2.1.led = t.led ∧ (t.plain = false → (layNew t es h x).2.1.plain = false) := by
 have so : ∀ (u : SetTable) n, (u.orStandIn n).led = u.led ∧ (u.plain = false → (u.orStandIn n).plain = false) := fun u n => by
  unfold SetTable.orStandIn SetTable.standIn
  split <;> simp
 unfold layNew
 split
 ·rename_i slot wd _
  exact so _ _
 ·exact ⟨rfl, fun _ => rfl⟩
theorem relay_led (t : SetTable) (es : Array (Int × Value)) (wanted : Nat) : (relayAll t es wanted).2.1.led = t.led ∧ (t.plain = false → (relayAll t es wanted).2.1.plain = false) := by
 have lt : ∀ t' order, t.relaid (es.map (·.1)) wanted = some (t', order) → t'.led = t.led ∧ t'.plain = t.plain := fun t' order e => by
  unfold SetTable.relaid SetTable.laid at e
  cases hl : SetTable.layClean (SetTable.sizeAbove wanted - 1) (es.map (·.1)) with
  | none => rw [hl] at e; simp at e
  | some ow =>
   rw [hl] at e
   simp at e
   rw [← e.1]
   exact ⟨rfl, rfl⟩
 unfold relayAll
 split
 ·rename_i t' order e
  obtain ⟨e1, e2⟩ := lt _ _ e
  dsimp only
  split
  ·exact ⟨e1, fun h => e2.trans h⟩
  ·exact ⟨rfl, fun _ => rfl⟩
 ·exact ⟨rfl, fun _ => rfl⟩
theorem StrsAre.mapVals {l : List (Int × Value)} {ss : List Str} (h : StrsAre (l.map (·.2)) ss) (w : World) (k : Str) : (∃ e ∈ l, (SK w).is k e.2 = true) ↔ k ∈ ss := by
 induction l generalizing ss with
 | nil => cases h; simp
 | cons e l ih =>
  generalize hv : (e :: l).map (·.2) = vs at h
  cases h with
  | nil => cases hv
  | cons y t hr =>
   simp only [List.map_cons, List.cons.injEq] at hv
   obtain ⟨h1, h2⟩ := hv
   subst h2
   rw [List.mem_cons, ← ih hr]
   constructor
   ·rintro ⟨e', he, hk⟩
    rcases List.mem_cons.mp he with rfl | he
    ·rw [h1] at hk
     obtain ⟨t', e⟩ := Value.isStrOf_shape (show Value.isStrOf k (.str y t) = true from hk)
     cases e
     exact .inl rfl
    ·exact .inr ⟨e', he, hk⟩
   ·rintro (rfl | ⟨e', he, hk⟩)
    ·exact ⟨e, mem0, by rw [h1]; exact strKind_is _ _ _ _⟩
    ·exact ⟨e', List.mem_cons_of_mem _ he, hk⟩
theorem StrsAre.perm {vs vs' : List Value} (p : vs'.Perm vs) : ∀ {ss : List Str}, StrsAre vs ss → ∃ ss', StrsAre vs' ss' ∧ ss'.Perm ss := by
 induction p with
 | nil => exact fun h => ⟨_, h, List.Perm.refl _⟩
 | cons x _ ih =>
  intro ss h
  cases h with
  | cons y t hr =>
   obtain ⟨s', h1, h2⟩ := ih hr
   exact ⟨_, .cons y t h1, h2.cons y⟩
 | swap x y l =>
  intro ss h
  cases h with
  | cons a t hr => cases hr with
   | cons b u hr => exact ⟨_, .cons _ _ (.cons _ _ hr), List.Perm.swap _ _ _⟩
 | trans _ _ ih1 ih2 =>
  intro ss h
  obtain ⟨s1, a1, b1⟩ := ih2 h
  obtain ⟨s2, a2, b2⟩ := ih1 a1
  exact ⟨s2, a2, b2.trans b1⟩
theorem StrsAre.snoc {vs : List Value} {ss : List Str} (h : StrsAre vs ss) (x : Str) (t : Tok) : StrsAre (vs ++ [.str x t]) (ss ++ [x]) := by
 induction h with
 | nil => exact .cons x t .nil
 | cons y u _ ih => exact .cons y u ih
section
variable {w : World} {A : Around} {E : Value → Shared → Prop} {s : Shared}
theorem addText {a : Addr} {l : List Str} {x : Str} {tx : Tok} {Q : Bool → Shared → Prop} (hS : TextsAt w s.heap a l) (hroom : l.length + 1 < scanBound)
  (H : ∀ b h', Heap.SameBut a s.heap h' → TextsAt w h' a (addT l x) → Q b { s with heap := h' }) :
  wpAny (model P w) A (setAddHashed a (.str x tx) ((SK w).hash x)) Q E s := by
 obtain ⟨o, es, ep, t, ho, hex, hd, hel, ⟨vs, hvs, ss, hss, hp⟩, hnd, hb, hf, hled⟩ := hS
 have hkey : (SK w).is x (.str x tx) = true := strKind_is _ _ _ _
 have hlen : es.size = l.length := by
  rw [← hp.length_eq, ← hss.length, ← hvs, List.length_map, Array.length_toList]
 have hmem : ∀ k, (∃ e ∈ es.toList, (SK w).is k e.2 = true) ↔ k ∈ l := fun k => by
  subst hvs
  rw [StrsAre.mapVals hss w k]
  exact hp.mem_iff
 unfold setAddHashed setAddHashedIn
 refine wpAny_holding (wpAny_bind (wpAny_setState_of ho hd hf ?_))
 dsimp only
 rw [byScan_of rfl hb hel]
 rw [if_pos rfl]
 unfold setAddByScan
 refine wpAny_bind ?_
 refine wpAny_bind (wpAny_rule ?_)
 refine wpAny_bind (wpAny_setScan_of hkey ho hd hf hel ?_)
 cases hr : List.findIdx? (fun e => (SK w).is x e.2) es.toList with
 | some j =>
  dsimp only
  obtain ⟨hj, hpj, _⟩ := List.findIdx?_eq_some_iff_getElem.mp hr
  have hx : x ∈ l := (hmem x).mp ⟨es.toList[j], List.getElem_mem hj, hpj⟩
  refine wpAny_pure (wpAny_pure ?_)
  have e : s = { s with heap := s.heap } := by cases s; rfl
  rw [e]
  refine H _ s.heap (Heap.SameBut.refl _ _) ?_
  have : addT l x = l := by
   unfold addT; rw [if_pos]; exact List.any_eq_true.mpr ⟨x, hx, by simp⟩
  rw [this]
  exact ⟨o, es, ep, t, ho, hex, hd, hel, ⟨vs, hvs, ss, hss, hp⟩, hnd, hb, hf, hled⟩
 | none =>
  dsimp only
  have hx : x ∉ l := fun hx => by
   obtain ⟨e, he, hk⟩ := (hmem x).mpr hx
   have := List.findIdx?_eq_none_iff.mp hr e he
   rw [hk] at this; exact Bool.noConfusion this
  have hadd : addT l x = l ++ [x] := by
   unfold addT; rw [if_neg]
   rw [Bool.not_eq_true, List.any_eq_false]
   intro y hy
   simp only [beq_iff_eq]
   rintro rfl; exact hx hy
  have hnd' : (l ++ [x]).Nodup := by
   rw [List.nodup_append]
   exact (anI3 hnd (by simp) (fun a ha b hb z => hx (by rw [List.mem_singleton.mp hb] at z; exact z ▸ ha)))
  have hperm := layNew_perm t es ((SK w).hash x) (.str x tx)
  have hfits := layNew_fits t es ((SK w).hash x) (.str x tx)
  have hll := layNew_led t es ((SK w).hash x) (.str x tx)
  generalize hL : layNew t es ((SK w).hash x) (.str x tx) = Lx at hperm hfits hll ⊢
  obtain ⟨es1, t1, wasDummy, gave⟩ := Lx
  dsimp only at hperm hfits hll ⊢
  rw [Array.toList_push] at hperm
  have hel1 : ElemsOf (SK w) es1.toList := (hel.push hkey rfl).perm hperm
  have hsz1 : es1.size = es.size + 1 := by rw [← Array.length_toList, hperm.length_eq, List.length_append, Array.length_toList]; rfl
  have hss1 : ∃ vs, es1.toList.map (·.2) = vs ∧ ∃ ss, StrsAre vs ss ∧ ss.Perm (l ++ [x]) := by
   have h1 := hperm.map (fun e : Int × Value => e.2)
   rw [List.map_append, hvs] at h1
   obtain ⟨ss', a1, a2⟩ := StrsAre.perm h1 (StrsAre.snoc hss x tx)
   exact ⟨_, rfl, ss', a1, a2.trans (hp.append_right _)⟩
  have hb1 : es1.size < scanBound := by lia
  have fin : ∀ (es2 : Array (Int × Value)) (t2 : SetTable) (h₀ : Heap) (ep₀ : Nat) (o₀ : Obj) (ep' : Nat) (es' : Array (Int × Value)) (t' : SetTable), h₀.get? a = some o₀ → o₀.ExactSet → o₀.data = .set es' ep' t' → Heap.SameBut a s.heap h₀ → es2.toList.Perm es1.toList → t2.fits es2.size = true → (byText w = false → t2.led = true) → t2.plain = false →
    TextsAt w (h₀.update a (Obj.putSet es2 t2)) a (l ++ [x]) ∧ (∃ o₁, (h₀.update a (Obj.putSet es2 t2)).get? a = some o₁ ∧ o₁.ExactSet ∧ ∃ ep'', o₁.data = .set es2 ep'' t2) ∧ Heap.SameBut a s.heap (h₀.update a (Obj.putSet es2 t2)) := by
   intro es2 t2 h₀ ep₀ o₀ ep' es' t' ho₀ hex₀ hd₀ hsb hp2 hf2 hl2 hpl2
   have hg : (h₀.update a (Obj.putSet es2 t2)).get? a = some { o₀ with data := .set es2 (ep' + 1) t2 } := by
    have := Heap.get?_update_self (Obj.putSet es2 t2) ho₀ (by rw [putSet_of es2 t2 hd₀]; rfl)
    rw [putSet_of es2 t2 hd₀] at this; exact this
   have hs2 : es2.size = es1.size := by rw [← Array.length_toList, hp2.length_eq, Array.length_toList]
   refine (anI3 ⟨_, es2, ep' + 1, t2, hg, hex₀, rfl, hel1.perm hp2, ?_, hnd', by lia, hf2, hl2, fun _ => hpl2⟩ (⟨_, (anI3 hg hex₀ ⟨_, rfl⟩)⟩) (hsb.trans (Heap.SameBut.update _ a _)))
   obtain ⟨_, rfl, ss', a1, a2⟩ := hss1
   obtain ⟨ss2, b1, b2⟩ := StrsAre.perm (hp2.map _) a1
   exact ⟨_, rfl, ss2, b1, b2.trans a2⟩
  have gw : ∀ (b : Bool) {s₁ : Shared} {Q' : Unit → Shared → Prop}, Q' () s₁ → wpAny (model P w) A (match b with | true => rule "set.scan.the-table-gave-way" | false => pure ()) Q' E s₁ :=
   fun b s₁ Q' hq => by cases b <;> first | exact wpAny_pure hq | exact wpAny_rule hq
  refine wpAny_bind (gw _ ?_)
  have tail : ∀ (t2 : SetTable), t2.fits es1.size = true → (byText w = false → t2.led = true) → t2.plain = false → ∀ {g : Bool → Sem Unit}, (∀ (b : Bool) (s₁ : Shared) (Q' : Unit → Shared → Prop), Q' () s₁ → wpAny (model P w) A (g b) Q' E s₁) →
    wpAny (model P w) A (do
     storeSet a es1 t2
     if (!wasDummy && t2.tooFull) = true then do
       g (relayAll t2 es1 (SetTable.grown es1.size)).2.2
       storeSet a (relayAll t2 es1 (SetTable.grown es1.size)).1 (relayAll t2 es1 (SetTable.grown es1.size)).2.1
       pure (some true)
      else pure (some true)) (fun r s' => ∃ h', r = some true ∧ s' = { s with heap := h' } ∧ Heap.SameBut a s.heap h' ∧ TextsAt w h' a (l ++ [x])) E s := by
   intro t2 hf2 hl2 hp2 g hg
   (refine anE3 (fin es1 t2 s.heap ep o ep es t ho hex hd (Heap.SameBut.refl _ _) (List.Perm.refl _) hf2 hl2 hp2) fun T1 zo1 sb₁ => ?_; obtain ⟨o₁, ho₁, hex₁, ep₁, hd₁⟩ := zo1)
   refine wpAny_bind (wpAny_storeSet_of ho hd ?_ (by rw [sizeLine_eq]; unfold scanBound at hb1; lia))
   split
   ·have hr1 := relayAll_perm t2 es1 (SetTable.grown es1.size)
    have hr2 := relayAll_fits t2 es1 (SetTable.grown es1.size)
    have hr3 := relay_led t2 es1 (SetTable.grown es1.size)
    refine anE3 (fin _ _ (s.heap.update a (Obj.putSet es1 t2)) ep o₁ ep₁ es1 t2 ho₁ hex₁ hd₁ sb₁ hr1 hr2 (fun z => hr3.1.trans (hl2 z)) (hr3.2 hp2)) fun T2 _ sb₂ => ?_
    refine wpAny_bind (hg _ _ _ (wpAny_bind (wpAny_storeSet_of (s := { s with heap := s.heap.update a (Obj.putSet es1 t2) }) ho₁ hd₁ (wpAny_pure ⟨_, (anI4 rfl rfl sb₂ T2)⟩) ?_)))
    rw [sizeLine_eq, ← Array.length_toList, hr1.length_eq, Array.length_toList]
    unfold scanBound at hb1; lia
   ·exact wpAny_pure ⟨_, (anI4 rfl rfl sb₁ T1)⟩
  rw [hadd] at H
  split
  ·refine wpAny_bind ?_
   rw [hashByValue_scannable 8 rfl]
   refine wpAny_pure ?_
   refine wpAny_mono (tail { t1 with plain := false } (SetTable.fits_plain_off hfits) (fun z => hll.1.trans (hled.1 z)) rfl (fun b _ _ hq => by cases b <;> first | exact wpAny_pure hq | exact wpAny_rule hq)) (fun r s' zk => ?_) fun _ _ x => x
   obtain ⟨h', e1, e2, sb, T⟩ := zk
   subst e1; subst e2
   exact wpAny_pure (H _ h' sb T)
  ·rename_i hpl
   refine wpAny_bind (wpAny_pure ?_)
   rw [if_pos rfl]
   refine wpAny_mono (tail t1 hfits (fun z => hll.1.trans (hled.1 z)) (by simpa using hpl) (fun b _ _ hq => by cases b <;> first | exact wpAny_pure hq | exact wpAny_rule hq)) (fun r s' zk => ?_) fun _ _ x => x
   obtain ⟨h', e1, e2, sb, T⟩ := zk
   subst e1; subst e2
   exact wpAny_pure (H _ h' sb T)
end
end
section
open PySem PySem.W PyProof.Rows
theorem entry_set_iter : entryFor table "set.__iter__" = some Builtin.«frozenset.__iter__» := entryFor_alias (id' := "frozenset.__iter__") (by kernel_rfl) rfl (by decide +kernel) (by kernel_rfl)
theorem slot_si_next : Slot "set_iterator" "__next__" "set_iterator.__next__" :=
 .of (owner := "set_iterator") (n := "__next__") (by rw [typeLookup_type, builtinLookup_eq_fast]; kernel_rfl) (by decide +kernel) (by decide +kernel) (by decide +kernel)
  (by first | exact .inl (by decide +kernel) | exact .inr (by decide +kernel)) (by rw [isSubtype_type]; kernel_rfl)
theorem entry_si_next : entryFor table "set_iterator.__next__" = some Builtin.«set_iterator.__next__» := entryFor_of_tree (by kernel_rfl)
theorem owner_si : Manifest.owners.lookup (String.ofList ['r','o','t','a','r','e','t','i','_','t','e','s'].reverse) = some Manifest.sig_set_iterator := by kernel_rfl
theorem args_si_next (a : Value) : argsOk "set_iterator.__next__" ⟨[a], []⟩ := by
 unfold argsOk; rw [signature?_of (id := "set_iterator.__next__") (n := ['_', '_', 't', 'x', 'e', 'n', '_', '_']) (o := ['r','o','t','a','r','e','t','i','_','t','e','s']) (by kernel_rfl) owner_si]; kernel_rfl
theorem slot_si_iter : Slot "set_iterator" "__iter__" "set_iterator.__iter__" :=
 .of (owner := "set_iterator") (n := "__iter__") (by rw [typeLookup_type, builtinLookup_eq_fast]; kernel_rfl) (by decide +kernel) (by decide +kernel) (by decide +kernel)
  (by first | exact .inl (by decide +kernel) | exact .inr (by decide +kernel)) (by rw [isSubtype_type]; kernel_rfl)
theorem entry_si_iter : entryFor table "set_iterator.__iter__" = some Builtin.«dict_keyiterator.__iter__» := entryFor_alias (id' := "dict_keyiterator.__iter__") (by kernel_rfl) rfl (by decide +kernel) (by kernel_rfl)
theorem args_si_iter (a : Value) : argsOk "set_iterator.__iter__" ⟨[a], []⟩ := by
 unfold argsOk; rw [signature?_of (id := "set_iterator.__iter__") (n := ['_', '_', 'r', 'e', 't', 'i', '_', '_']) (o := ['r','o','t','a','r','e','t','i','_','t','e','s']) (by kernel_rfl) owner_si]; kernel_rfl
theorem cons_erase {α : Type} : ∀ (l : List α) (i : Nat) (x : α), l[i]? = some x → (x :: l.eraseIdx i).Perm l := by
 intro l
 induction l with
 | nil => intro i x h; cases h
 | cons y l ih =>
  intro i x h
  cases i with
  | zero => cases h; exact List.Perm.refl _
  | succ i => exact (List.Perm.swap _ _ _).trans ((ih i x h).cons y)
theorem erase_len {α : Type} : ∀ (l : List α) (i : Nat), i < l.length → (l.eraseIdx i).length + 1 = l.length
 | [], i, h => by simp at h
 | y :: l, 0, _ => rfl
 | y :: l, i + 1, h => by
  have := erase_len l i (by simpa using h)
  show (l.eraseIdx i).length + 1 + 1 = l.length + 1
  lia
theorem pick_go {α : Type} (next : Nat → Nat) : ∀ (fuel k : Nat) (left : List α) (out : Array α), fuel = left.length → (pickOrder.go next fuel k left out).toList.Perm (out.toList ++ left)
 | 0, k, left, out, h => by
  have : left = [] := List.length_eq_zero_iff.mp h.symm
  subst this
  unfold pickOrder.go
  rw [List.append_nil]
 | fuel + 1, k, left, out, h => by
  have hlt : next k % left.length < left.length := Nat.mod_lt _ (by lia)
  unfold pickOrder.go
  rw [List.getElem?_eq_getElem hlt]
  dsimp only
  have hl := erase_len left _ hlt
  refine (pick_go next fuel (k + 1) _ _ (by lia)).trans ?_
  rw [Array.toList_push, List.append_assoc]
  exact List.Perm.append_left _ (cons_erase left _ _ (List.getElem?_eq_getElem hlt))
theorem pick_perm {α : Type} (next : Nat → Nat) (xs : Array α) : (pickOrder next xs).toList.Perm xs.toList := by
 have := pick_go next xs.size 0 xs.toList #[] (by simp)
 simpa [pickOrder] using this
section
variable {w : World} {A : Around} {E : Value → Shared → Prop} {s : Shared}
theorem draw_perm {α : Type} : ∀ (n : Nat) (xs : List α) (s : Shared) (Q : List α → Shared → Prop), n = xs.length → (∀ ys dr', ys.Perm xs → Q ys { s with drawn := dr' }) → wpAny (model P w) A (drawOrder n xs) Q E s
 | 0, xs, s, Q, h, H => by
  have : xs = [] := List.length_eq_zero_iff.mp h.symm
  subst this
  have e : s = { s with drawn := s.drawn } := by cases s; rfl
  refine wpAny_pure ?_
  rw [e]; exact H [] s.drawn (List.Perm.refl _)
 | n + 1, [], s, Q, h, H => by simp at h
 | n + 1, x :: xs, s, Q, h, H => by
  refine wpAny_bind ?_
  intro Γ p hΓ
  show Sem.wp _ Γ (.choose .order (x :: xs).length .pure) _ _ p s
  rw [Sem.wp_choose]
  refine ⟨by simp, ?_⟩
  rw [Sem.wp_pure]
  have hlt : (model P w).w.draws .order (s.drawn.get .order) % (x :: xs).length < (x :: xs).length := Nat.mod_lt _ (by simp)
  generalize (model P w).w.draws .order (s.drawn.get .order) % (x :: xs).length = i at hlt
  show wpAny (model P w) A _ _ E _
  rw [List.getElem?_eq_getElem hlt]
  dsimp only
  have hl := erase_len (x :: xs) i hlt
  refine wpAny_bind (draw_perm n _ _ _ (by simp at hl h ⊢; lia) fun ys dr' hp => wpAny_pure ?_)
  exact H _ dr' ((hp.cons _).trans (cons_erase _ _ _ (List.getElem?_eq_getElem hlt)))
noncomputable def SetIt (h : Heap) (it S : Addr) (first : Value) (i n ep : Nat) : Prop := ∃ o, h.get? it = some o ∧ o.cls = .type "set_iterator" ∧ o.data = .fields #[first, .int i 0, .ref S, .int n 0, .int ep 0]
noncomputable def SetHas (h : Heap) (S : Addr) (es : Array (Int × Value)) (ep : Nat) (t : SetTable) : Prop := ∃ o, h.get? S = some o ∧ o.ExactSet ∧ o.data = .set es ep t ∧ t.fits es.size = true
theorem SetIt.at {h h' : Heap} {it S first i n ep} (x : SetIt h it S first i n ep) (e : ∀ o, h.get? it = some o → h'.get? it = some o) : SetIt h' it S first i n ep := by obtain ⟨o, a, r⟩ := x; exact ⟨o, e _ a, r⟩
theorem SetHas.at {h h' : Heap} {S es ep t} (x : SetHas h S es ep t) (e : ∀ o, h.get? S = some o → h'.get? S = some o) : SetHas h' S es ep t := by obtain ⟨o, a, r⟩ := x; exact ⟨o, e _ a, r⟩
theorem SetIt.typeIs {it S first i n ep} (x : SetIt s.heap it S first i n ep) : s.TypeIs (.ref it) "set_iterator" := by obtain ⟨o, a, b, _⟩ := x; exact ⟨o, a, b⟩
theorem SetIt.put {h : Heap} {it S first i n ep} (x : SetIt h it S first i n ep) {k : Nat} {v : Value} {first' : Value} {i' : Nat} (hf : (#[first, .int i 0, .ref S, .int n 0, .int ep 0] : Array Value).setIfInBounds k v = #[first', .int i' 0, .ref S, .int n 0, .int ep 0]) :
  SetIt (h.update it (Obj.mapFields (·.setIfInBounds k v))) it S first' i' n ep := by
 obtain ⟨o, ho, hc, hd⟩ := x
 exact ⟨_, Heap.get?_update_self _ ho (Obj.isFreed_of_fields (Obj.data_mapFields hd _)), (Obj.cls_mapFields ..).trans hc, by rw [Obj.data_mapFields hd, hf]⟩
theorem si_fetch {it S : Addr} {first : Value} {i n ep : Nat} {es : Array (Int × Value)} {t : SetTable} {Q : Option Value → Shared → Prop} (hh : A.handled = none) (hit : SetIt s.heap it S first i n ep) (hS : SetHas s.heap S es ep t) (hn : es.size = n)
  (H : (∃ slot : Nat, first = .int slot 0 ∧ ∃ r, (∀ (A' : Around) (E' : Value → Shared → Prop) (Q' : Option (Value × Nat) → Shared → Prop), Q' r s → wpAny (model P w) A' (setNext S slot i ep) Q' E' s) ∧
    match r with
    | some (x, next) => ∀ h', SetIt h' it S (.int next 0) (i + 1) n ep → Heap.SameBut it s.heap h' → Q (some x) { s with heap := h' }
    | none => ∀ h', Heap.ExtBut it s.heap h' → Q none { s with heap := h' }) ∨
   (∃ T items, first = .ref T ∧ s.heap.IsTuple T items ∧ ((∃ (place : Nat) (e : Int × Value), items[i]? = some (.int place 0) ∧ es[place]? = some e ∧ ∀ h', SetIt h' it S (.ref T) (i + 1) n ep → Heap.SameBut it s.heap h' → Q (some e.2) { s with heap := h' }) ∨
    (items[i]? = none ∧ ∀ h', Heap.ExtBut it s.heap h' → Q none { s with heap := h' })))) :
  wpAny (model P w) A (pyNext (.ref it)) Q E s := by
 obtain ⟨o, ho, hc, hd⟩ := id hit
 obtain ⟨oS, hoS, hex, hdS, hf⟩ := id hS
 have stop : ∀ (h₁ : Heap), Heap.SameBut it s.heap h₁ → (∀ h', Heap.ExtBut it s.heap h' → Q none { s with heap := h' }) →
   wpAny (model P w) A.in1 (newExc (.type "StopIteration") [] >>= raiseNew : Sem Fin) (fun _ _ => False) (fun x s' => wpAny (model P w) A (isInstance x (.type "StopIteration") >>= fun b => if b = true then pure none else throw x) Q E s') { s with heap := h₁ } := by
  intro h₁ sb hq
  refine wpAny_bind ?_
  refine wpAny_bind (wpAny_newObj_type ?_ (by size_fits))
  refine wpAny_bind (m := firstArgMember _ _) (wpAny_of_eq (a := Value.none) (by first | rfl | (simp only [firstArgMember]; rfl)) ?_)
  refine wpAny_newObj_type ?_ (by size_fits)
  refine wpAny_bind (wpAny_bind (wpAny_handled ?_))
  rw [show A.in1.handled = none from hh]
  refine wpAny_pure ?_
  refine wpAny_throw ?_
  refine wpAny_bind (wpAny_isInstance (T := "StopIteration") (b := true) ⟨_, Heap.get?_push_size _ rfl, rfl⟩ isSubtype_stop ?_)
  exact wpAny_pure (hq _ fun b o' hb e => Heap.get?_push_of_some _ (Heap.get?_push_of_some _ (sb.extBut b o' hb e)))
 unfold pyNext
 refine wpAny_bind (wpAny_attempt (wpAny_callSpecial?_slot (name := Str.ofString "__next__") hit.typeIs slot_si_next
  (wpAny_call_entry slot_si_next hit.typeIs entry_si_next ?_ (args_si_next _))))
 unfold Builtin.«set_iterator.__next__»
 refine wpAny_bind (m := slotArgs "__next__" 0 _) (wpAny_pure ?_)
 refine wpAny_bind (wpAny_fieldsOf ho hd ?_)
 dsimp only
 refine wpAny_bind (wpAny_setEntries_of hoS hdS hf ?_)
 rw [if_neg (by simp [hn])]
 rcases H with zc | zc
 ·obtain ⟨slot, rfl, r, hr, H⟩ := zc
  dsimp only
  refine wpAny_bind (hr _ _ _ ?_)
  cases r with
  | some xn =>
   obtain ⟨x, next⟩ := xn
   dsimp only at H ⊢
   have hit1 := hit.put (k := 0) (v := rawInt next) (first' := .int next 0) (i' := i) rfl
   have hit2 := hit1.put (k := 1) (v := rawInt ((i : Int) + 1)) (first' := .int next 0) (i' := i + 1) (by simp [rawInt])
   obtain ⟨o1, ho1, _, hd1⟩ := id hit1
   refine wpAny_bind (wpAny_setField ho hd (by simp) (wpAny_bind (wpAny_setField ho1 hd1 (by simp) ?_)))
   refine wpAny_pure ⟨_, rfl, wpAny_pure (H _ hit2 ((Heap.SameBut.update _ it _).trans (Heap.SameBut.update _ it _)))⟩
  | none =>
   dsimp only at H ⊢
   refine wpAny_bind (wpAny_setField ho hd (by simp) ?_)
   refine wpAny_mono (stop _ (Heap.SameBut.update _ it _) H) (fun _ _ f => f.elim) fun x s' y => y
 ·(refine exE2 zc fun T items zr2 => anE3 zr2 fun ze1 hT H => ?_; clear zc zr2; subst ze1)
  dsimp only
  obtain ⟨oT, hoT, hcT, nT, hdT⟩ := id hT
  refine wpAny_bind (wpAny_seqItems hoT hdT ?_)
  dsimp only
  rcases H with zc | ⟨hi, H⟩
  ·(refine exE2 zc fun place e zr3 => anE3 zr3 fun hi he H => ?_; clear zc zr3)
   rw [show items[(i : Int).toNat]? = some (.int place 0) from by rw [Int.toNat_natCast]; exact hi]
   dsimp only
   refine wpAny_bind (wpAny_bind (wpAny_setState_of hoS hdS hf ?_))
   dsimp only
   rw [if_neg (by simp)]
   rw [show es[(place : Int).toNat]? = some e from by rw [Int.toNat_natCast]; exact he]
   refine wpAny_pure ?_
   have hit1 := hit.put (k := 1) (v := rawInt ((i : Int) + 1)) (first' := .ref T) (i' := i + 1) (by simp [rawInt])
   refine wpAny_bind (wpAny_setField ho hd (by simp) ?_)
   exact wpAny_pure ⟨_, rfl, wpAny_pure (H _ hit1 (Heap.SameBut.update _ it _))⟩
  ·rw [show items[(i : Int).toNat]? = none from by rw [Int.toNat_natCast]; exact hi]
   dsimp only
   have hit1 := hit.put (k := 0) (v := rawInt 0) (first' := .int 0 0) (i' := i) (by simp [rawInt])
   obtain ⟨o1, ho1, _, hd1⟩ := id hit1
   refine wpAny_bind (wpAny_setField ho hd (by simp) (wpAny_bind (wpAny_setField ho1 hd1 (by simp) ?_)))
   exact wpAny_mono (stop _ ((Heap.SameBut.update _ it _).trans (Heap.SameBut.update _ it _)) H) (fun _ _ f => f.elim) fun x s' y => y
end
end
section
open PySem PySem.W PyProof.Rows
section
variable {w : World} {A : Around} {E : Value → Shared → Prop} {h : Heap} {gs : Array GenState} {dr : Drawn} {t : Tok} {os : OsState}
theorem collect_via {T : String} {d : Addr} {n : Nat} (Good : (Nat → Value → Prop) → Prop) {R : List Value → Shared → Prop} (hT : ∀ h', Keep h h' → ∀ gs dr t os, Shared.TypeIs ⟨h', gs, dr, t, os⟩ (.ref d) T) (nl : (Value.type T == Value.type "list") = false) (nt : (Value.type T == Value.type "tuple") = false)
  (hint : ∀ (A' : Around) (E' : Value → Shared → Prop) (s : Shared) (Q : Bool → Shared → Prop), s.TypeIs (.ref d) T → Q false s → wpAny (model P w) A' (Builtin.List.listLengthHint (.ref d)) Q E' s) (hd : d ≠ h.objs.size) (hn : n ≤ sizeLine)
  (iter : ∀ h₁ (Q : Value → Shared → Prop) E', Keep h h₁ → h₁.get? h.objs.size ≠ none → (∀ I fp wr Pv St h₂ dr' t₂, Good Pv → Keep h₁ h₂ → Walks P w A.in1 I fp wr n Pv St → St 0 h₂ → h.objs.size ∉ fp → (∀ b ∈ wr, h.get? b = none) → Q (.ref I) ⟨h₂, gs, dr', t₂, os⟩) →
   wpAny (model P w) A.in1 (pyIter (.ref d)) Q E' ⟨h₁, gs, dr, t, os⟩)
  (H : ∀ h' dr' t' vs Pv, Good Pv → Keep h h' → vs.length = n → (∀ (j : Nat) v, vs[j]? = some v → Pv j v) → R vs ⟨h', gs, dr', t', os⟩) : wpAny (model P w) A (collect (.ref d)) R E ⟨h, gs, dr, t, os⟩ := by
 unfold collect
 refine wpAny_bind (wpAny_runValue (codeAny_builtin entry_proto_collect' ?_))
 rw [Around.under_plainId PySem.F.plain_proto_collect _]
 show wpAny _ A.in1 (newList [] >>= fun l => again (.builtin "list.__iadd__" ⟨[l, .ref d], []⟩)) _ _ _
 refine wpAny_bind (wpAny_newObj_type ?_)
 refine wpAny_pure ⟨plainId_quiet PySem.F.plain_list_iadd _, codeAny_builtin entry_list_iadd' ?_⟩
 rw [Around.under_plainId PySem.F.plain_list_iadd _]
 have kp := Keep.push h { cls := .type "list", data := .seq ([] : List Value).toArray }
 have hS₁ : (h.push { cls := .type "list", data := .seq ([] : List Value).toArray }).get? h.objs.size = some { cls := .type "list", data := .seq #[] } := Heap.get?_push_size _ rfl
 show wpAny _ A.in1 (Builtin.List.listExtendWith (.ref h.objs.size) (.ref d) (.ref h.objs.size)) _ _ _
 generalize hh₁ : h.push { cls := .type "list", data := .seq ([] : List Value).toArray } = h₁ at kp hS₁
 have key2 : wpAny (model P w) A.in1 (Builtin.List.listExtendWith (.ref h.objs.size) (.ref d) (.ref h.objs.size))
   (fun fin s' => match fin with
    | .done f => False
    | .again c' => c'.quiet = true ∧ codeAny (model P w) A c' (fun (q : Result) (s' : Shared) => ∃ (h' : Heap) (dr' : Drawn) (tk : Nat) (acc' : Array Value) (c' : Nat) (Pv : Nat → Value → Prop), q = .ok (.ret (.ref h.objs.size)) ∧ s' = ⟨h', gs, dr', tk, os⟩ ∧ Keep h h' ∧ h'.get? h.objs.size = some { cls := .type "list", dict := none, data := .seq acc' c', slots := #[] } ∧ ItemsOf Pv acc' n ∧ Good Pv) s')
   (fun e s' => False) ⟨h₁, gs, dr, t, os⟩ := by
  unfold Builtin.List.listExtendWith
  refine wpAny_bind (wpAny_typeOf (hT _ kp gs dr t os) ?_)
  have h1 : Builtin.List.listSameRef (.ref h.objs.size) (.ref d) = false := by simp [Builtin.List.listSameRef, Ne.symm hd]
  simp only [h1, nl, nt, Bool.or_false, Bool.false_eq_true, if_false]
  refine wpAny_bind (iter h₁ _ _ kp (by rw [hS₁]; exact Option.some_ne_none _) fun I fp wr Pv St h₂ dr' t₂ hgood k₂ W hst hfp hwr => ?_)
  have hS₂ := k₂ _ _ hS₁
  have key : ∀ (h₃ : Heap) (c₁ : Nat), St 0 h₃ → (∀ b o, b ≠ h.objs.size → h₂.get? b = some o → h₃.get? b = some o) → h₃.get? h.objs.size = some { cls := .type "list", data := .seq #[] c₁ } →
    codeAny (model P w) A (.builtin "list.extend.loop" ⟨[.ref h.objs.size, .ref I, .ref h.objs.size], []⟩) (fun (q : Result) (s' : Shared) => ∃ (h' : Heap) (dr' : Drawn) (tk : Nat) (acc' : Array Value) (c' : Nat) (Pv : Nat → Value → Prop), q = .ok (.ret (.ref h.objs.size)) ∧ s' = ⟨h', gs, dr', tk, os⟩ ∧ Keep h h' ∧ h'.get? h.objs.size = some { cls := .type "list", dict := none, data := .seq acc' c', slots := #[] } ∧ ItemsOf Pv acc' n ∧ Good Pv) ⟨h₃, gs, dr', t₂, os⟩ := by
   intro h₃ c₁ hst₃ hk hS₃
   refine codeAny_extend_loopS W.toS hn h.objs.size hfp (.ref h.objs.size) n 0 _ #[] c₁ rfl (Nat.zero_le _) hst₃ hS₃ (ItemsOf.nil _) fun s' acc' c' hm hS' hacc => ?_
   rw [Moved.eq_with hm]
   refine (exI6 s'.heap dr' s'.toks acc' c' Pv (anI6 rfl rfl (fun b o q => ?_) hS' hacc hgood))
   have hbS : b ≠ h.objs.size := fun z => by have := Heap.lt_size q; rw [z] at this; exact Nat.lt_irrefl _ this
   refine hm.heap b o (fun hmem => ?_) (hk b o hbS (k₂ _ _ (kp b o q)))
   rcases List.mem_cons.mp hmem with e' | hmem
   ·exact hbS e'
   ·rw [hwr b hmem] at q; cases q
  refine wpAny_bind (wpAny_holding (hint _ _ _ _ (hT _ (kp.trans k₂) _ _ _ _) ?_))
  refine wpAny_ite_split (fun _ => ?_) (fun _ => wpAny_pure ⟨plainId_quiet PySem.F.plain_extend_loop _, key _ 0 hst (fun b o _ q => q) hS₂⟩)
  refine wpAny_bind (wpAny_rule ?_)
  refine wpAny_bind ?_
  show wpAny _ _ (updateSeq h.objs.size (·.push .none) >>= fun _ => updateSeq h.objs.size (·.pop)) _ _ _
  refine wpAny_bind (wpAny_updateSeq hS₂ rfl ?_)
  have hS₃ := Heap.get?_update_self (Obj.mapSeq (·.push Value.none)) hS₂ rfl
  refine wpAny_updateSeq (hz := by seq_fits) hS₃ rfl ?_
  have hS₄ := Heap.get?_update_self (Obj.mapSeq (·.pop)) hS₃ rfl
  have oth : ∀ b o, b ≠ h.objs.size → h₂.get? b = some o → ((h₂.update h.objs.size (Obj.mapSeq (·.push Value.none))).update h.objs.size (Obj.mapSeq (·.pop))).get? b = some o :=
   fun b o hb q => (Heap.get?_update_other _ _ (Ne.symm hb)).trans ((Heap.get?_update_other _ _ (Ne.symm hb)).trans q)
  exact wpAny_pure ⟨plainId_quiet PySem.F.plain_extend_loop _, key _ _ (W.frame _ _ _ hst fun b hb o q => oth b o (fun z => hfp (z ▸ hb)) q) oth hS₄⟩
 refine wpAny_mono key2 (fun fin s' y => ?_) fun e s' y => y.elim
 cases fin with
 | done f => exact y.elim
 | again c₁ =>
  refine ⟨y.1, codeAny_mono y.2 fun q s₂ y => ?_⟩
  (refine exE6 y fun h' dr' tk acc' c' Pv zr3 => anE6 zr3 fun ze1 ze2 hk hS' hl hg => ?_; clear y zr3; subst ze1; subst ze2)
  show wpAny _ A (load h.objs.size >>= _) _ _ _
  exact wpAny_bind (wpAny_load hS' (wpAny_pure (H h' dr' tk _ Pv hg hk (by rw [Array.length_toList]; exact hl.1) fun j v q => hl.2 j v (by rw [← Array.getElem?_toList]; exact q))))
end
end
section
open PySem PySem.W PyProof.Rows
theorem below_one (p slot : Nat) : SetTable.below #[p] slot = if p < slot then 1 else 0 := by
 unfold SetTable.below
 show SetTable.below.go #[p] slot 1 0 1 = _
 unfold SetTable.below.go
 simp only [show (0 : Nat) < 1 from by decide, if_true]
 show (if p < slot then _ else _) = _
 split
 ·unfold SetTable.below.go; rfl
 ·unfold SetTable.below.go; rfl
section
variable {w : World} {A : Around} {E : Value → Shared → Prop} {s : Shared}
theorem byText_is {Q : Bool → Shared → Prop} (h : Q (byText w) s) : wpAny (model P w) A setsByText Q E s := by
 unfold setsByText
 exact wpAny_bind (wpAny_askSetting (wpAny_pure h))
theorem si_self {it S : Addr} {first : Value} {i n ep : Nat} {Q : Value → Shared → Prop} (hit : SetIt s.heap it S first i n ep) (h : Q (.ref it) s) : wpAny (model P w) A (pyIter (.ref it)) Q E s := by
 refine wpAny_pyIter_slot hit.typeIs slot_si_iter (wpAny_call_entry slot_si_iter hit.typeIs entry_si_iter ?_ (args_si_iter _))
 show wpAny _ _ (ret (.ref it)) _ _ s
 exact wpAny_pure ⟨_, ⟨rfl, (exI2 ("set_iterator") _ (anI3 hit.typeIs slot_si_next.lookup h))⟩⟩
theorem walk_text (hh : A.handled = none) (hb : byText w = true) {it S : Addr} (hne : S ≠ it) {es : Array (Int × Value)} {ep : Nat} {t : SetTable} :
  Walks P w A it [it, S] [it] es.size (fun i v => ∃ e, (pickOrder (w.params.setOrder S ep) es)[i]? = some e ∧ v = e.2) (fun i h => SetIt h it S (.int 0 0) i es.size ep ∧ SetHas h S es ep t) where
 sub := fun b hb => by simp at hb; simp [hb]
 frame := fun _ _ _ st hk => ⟨st.1.at fun o e => hk it (by simp) o e, st.2.at fun o e => hk S (by simp) o e⟩
 self := fun _ _ _ _ st hQ => si_self st.1 hQ
 item := fun i s Q E hi st hQ => by
  obtain ⟨hit, hS⟩ := st
  obtain ⟨oS, hoS, hex, hdS, hf⟩ := id hS
  have hsz : (pickOrder (w.params.setOrder S ep) es).size = es.size := by
   have := (pick_perm (w.params.setOrder S ep) es).length_eq
   simpa using this
  have hx : (pickOrder (w.params.setOrder S ep) es)[i]? = some ((pickOrder (w.params.setOrder S ep) es)[i]'(by lia)) := Array.getElem?_eq_getElem _
  refine si_fetch hh hit hS rfl (.inl ⟨0, rfl, some (((pickOrder (w.params.setOrder S ep) es)[i]'(by lia)).2, 0), fun A' E' Q' hq => ?_, fun h' hit' sb => ?_⟩)
  ·refine wpAny_bind (wpAny_setState_of hoS hdS hf ?_)
   dsimp only
   refine wpAny_bind (byText_is ?_)
   rw [hb, if_pos rfl]
   rw [if_neg (by rw [bne_self_eq_false]; exact Bool.false_ne_true)]
   refine wpAny_bind ?_
   refine wpAny_bind (wpAny_setState_of hoS hdS hf ?_)
   dsimp only
   refine wpAny_bind (byText_is ?_)
   rw [hb, if_pos rfl]
   refine wpAny_bind (wpAny_askSetting (wpAny_pure ?_))
   refine wpAny_pure ?_
   show Q' (((pickOrder (w.params.setOrder S ep) es)[i]?).map fun e => (e.2, 0)) s
   rw [hx]; exact hq
  ·exact hQ _ h' s.toks ⟨_, hx, rfl⟩ ⟨hit', hS.at fun o e => (sb.2 S hne).trans e⟩ fun b o hb e => (sb.2 b (fun h => hb (by simp [h]))).trans e
 done := fun s Q E st hQ => by
  obtain ⟨hit, hS⟩ := st
  obtain ⟨oS, hoS, hex, hdS, hf⟩ := id hS
  have hsz : (pickOrder (w.params.setOrder S ep) es).size = es.size := by
   have := (pick_perm (w.params.setOrder S ep) es).length_eq
   simpa using this
  refine si_fetch hh hit hS rfl (.inl ⟨0, rfl, none, fun A' E' Q' hq => ?_, fun h' he => ?_⟩)
  ·refine wpAny_bind (wpAny_setState_of hoS hdS hf ?_)
   dsimp only
   refine wpAny_bind (byText_is ?_)
   rw [hb, if_pos rfl]
   rw [if_neg (by rw [bne_self_eq_false]; exact Bool.false_ne_true)]
   refine wpAny_bind ?_
   refine wpAny_bind (wpAny_setState_of hoS hdS hf ?_)
   dsimp only
   refine wpAny_bind (byText_is ?_)
   rw [hb, if_pos rfl]
   refine wpAny_bind (wpAny_askSetting (wpAny_pure ?_))
   refine wpAny_pure ?_
   show Q' (((pickOrder (w.params.setOrder S ep) es)[es.size]?).map fun e => (e.2, 0)) s
   rw [Array.getElem?_eq_none (by lia)]; exact hq
  ·exact hQ h' s.toks fun b o hb e => he b o (fun h => hb (by simp [h])) e
theorem walk_drawn (hh : A.handled = none) {it S T : Addr} (hne : S ≠ it) (hnt : T ≠ it) {es : Array (Int × Value)} {ep : Nat} {t : SetTable} {ys : List Nat} (hy : ys.Perm (List.range es.size)) :
  Walks P w A it [it, S, T] [it] es.size (fun i v => ∃ (k : Nat) (e : Int × Value), ys[i]? = some k ∧ es[k]? = some e ∧ v = e.2) (fun i h => (SetIt h it S (.ref T) i es.size ep ∧ SetHas h S es ep t) ∧ h.IsTuple T (ys.map fun i : Nat => Value.int i 0).toArray) where
 sub := fun b hb => by simp at hb; simp [hb]
 frame := fun _ _ _ st hk => ⟨⟨st.1.1.at fun o e => hk it (by simp) o e, st.1.2.at fun o e => hk S (by simp) o e⟩, st.2.at fun o e => hk T (by simp) o e⟩
 self := fun _ _ _ _ st hQ => si_self st.1.1 hQ
 item := fun i s Q E hi st hQ => by
  obtain ⟨⟨hit, hS⟩, hT⟩ := st
  have hlen : ys.length = es.size := by simpa using hy.length_eq
  have hk : ys[i]? = some (ys[i]'(by lia)) := List.getElem?_eq_getElem _
  have hm : ys[i]'(by lia) < es.size := by
   have := hy.mem_iff.mp (List.getElem_mem (by lia : i < ys.length))
   simpa using this
  refine si_fetch hh hit hS rfl (.inr (exI2 T _ (anI3 rfl hT (.inl (exI2 (ys[i]'(by lia)) (es[ys[i]'(by lia)]) (anI3 (by simp [hk]) (Array.getElem?_eq_getElem hm) (fun h' hit' sb => ?_)))))))
  exact hQ _ h' s.toks (exI2 _ _ (anI3 hk (Array.getElem?_eq_getElem hm) rfl)) ⟨⟨hit', hS.at fun o e => (sb.2 S hne).trans e⟩, hT.at fun o e => (sb.2 T hnt).trans e⟩ fun b o hb e => (sb.2 b (fun h => hb (by simp [h]))).trans e
 done := fun s Q E st hQ => by
  obtain ⟨⟨hit, hS⟩, hT⟩ := st
  have hlen : ys.length = es.size := by simpa using hy.length_eq
  refine si_fetch hh hit hS rfl (.inr (exI2 T _ (anI3 rfl hT (.inr ⟨by simp [hlen], fun h' he => ?_⟩))))
  exact hQ h' s.toks fun b o hb e => he b o (fun h => hb (by simp [h])) e
theorem walk_one (hh : A.handled = none) (hb : byText w = false) {it S : Addr} (hne : S ≠ it) {es : Array (Int × Value)} {ep : Nat} {t : SetTable} (hs : es.size ≤ 1) (hl : t.led = true) :
  Walks P w A it [it, S] [it] es.size (fun i v => ∃ e, es[i]? = some e ∧ v = e.2) (fun i h => (∃ slot : Nat, SetIt h it S (.int slot 0) i es.size ep ∧ (i = 0 → slot = 0) ∧ (0 < i → ∀ p, t.place = #[p] → p < slot)) ∧ SetHas h S es ep t) where
 sub := fun b hb => by simp at hb; simp [hb]
 frame := fun _ _ _ st hk => ⟨(by obtain ⟨sl, a, b⟩ := st.1; exact ⟨sl, a.at fun o e => hk it (by simp) o e, b⟩), st.2.at fun o e => hk S (by simp) o e⟩
 self := fun _ _ _ _ st hQ => (by obtain ⟨_, a, _⟩ := st.1; exact si_self a hQ)
 item := fun i s Q E hi st hQ => by
  obtain ⟨⟨slot, hit, h0, h1⟩, hS⟩ := st
  obtain ⟨oS, hoS, hex, hdS, hf⟩ := id hS
  have hi0 : i = 0 := by lia
  subst hi0
  obtain rfl := h0 rfl
  have hpl : t.place.size = es.size := by
   simp only [SetTable.fits, Bool.and_eq_true, beq_iff_eq] at hf
   exact hf.1
  obtain ⟨p, hp⟩ : ∃ p, t.place = #[p] := by
   have : t.place.size = 1 := by lia
   exact Array.size_eq_one_iff.mp this
  have hx : es[0]? = some (es[0]'hi) := Array.getElem?_eq_getElem hi
  refine si_fetch hh hit hS rfl (.inl ⟨0, rfl, some ((es[0]'hi).2, p + 1), fun A' E' Q' hq => ?_, fun h' hit' sb => ?_⟩)
  ·refine wpAny_bind (wpAny_setState_of hoS hdS hf ?_)
   dsimp only
   refine wpAny_bind (byText_is ?_)
   rw [hb]
   rw [if_neg Bool.false_ne_true]
   have hbl : SetTable.below t.place 0 = 0 := by rw [hp, below_one]; simp
   refine wpAny_ite_split (fun q => absurd q (by show ¬ ((!t.plain && decide (es.size > 1)) = true); simp; lia)) (fun _ => ?_)
   refine wpAny_bind ?_
   show wpAny _ _ (if (!t.led && !es.isEmpty) = true then _ else pure ()) _ _ _
   rw [if_neg (by rw [hl]; simp)]
   refine wpAny_pure (wpAny_pure ?_)
   rw [hbl, hx, hp]
   exact hq
  ·refine hQ _ h' s.toks ⟨_, hx, rfl⟩ ⟨⟨(p + 1), (anI3 hit' (fun z => by lia) (fun _ p' hp' => ?_))⟩, hS.at fun o e => (sb.2 S hne).trans e⟩ fun b o hb e => (sb.2 b (fun h => hb (by simp [h]))).trans e
   rw [hp] at hp'
   simp at hp'
   lia
 done := fun s Q E st hQ => by
  obtain ⟨⟨slot, hit, h0, h1⟩, hS⟩ := st
  obtain ⟨oS, hoS, hex, hdS, hf⟩ := id hS
  refine si_fetch hh hit hS rfl (.inl ⟨slot, rfl, none, fun A' E' Q' hq => ?_, fun h' he => ?_⟩)
  ·refine wpAny_bind (wpAny_setState_of hoS hdS hf ?_)
   dsimp only
   refine wpAny_bind (byText_is ?_)
   rw [hb]
   rw [if_neg Bool.false_ne_true]
   refine wpAny_ite_split (fun q => absurd q (by show ¬ ((!t.plain && decide (es.size > 1)) = true); simp; lia)) (fun _ => ?_)
   refine wpAny_bind ?_
   show wpAny _ _ (if (!t.led && !es.isEmpty) = true then _ else pure ()) _ _ _
   rw [if_neg (by rw [hl]; simp)]
   refine wpAny_pure (wpAny_pure ?_)
   have hnone : es[SetTable.below t.place slot]? = none := by
    have hpl : t.place.size = es.size := by
     simp only [SetTable.fits, Bool.and_eq_true, beq_iff_eq] at hf
     exact hf.1
    rcases Nat.lt_or_ge 0 es.size with z | z
    ·obtain ⟨p, hp⟩ : ∃ p, t.place = #[p] := Array.size_eq_one_iff.mp (by lia)
     have := h1 z p hp
     rw [hp, below_one, if_pos this]
     exact Array.getElem?_eq_none (by lia)
    ·exact Array.getElem?_eq_none (by lia)
   rw [hnone]
   exact hq
  ·exact hQ h' s.toks fun b o hb e => he b o (fun h => hb (by simp [h])) e
end
end
section
open PySem PySem.W PyProof.Rows
theorem hint_set {w : World} {A : Around} {E : Value → Shared → Prop} {s : Shared} {r : Addr} {Q : Bool → Shared → Prop} (hT : s.TypeIs (.ref r) "set") (h : Q false s) : wpAny (model P w) A (Builtin.List.listLengthHint (.ref r)) Q E s := by
 unfold Builtin.List.listLengthHint
 refine wpAny_bind (wpAny_specialOf hT PySem.F.slot_set_len.lookup ?_)
 generalize hid : ("set.__len__" : String) = id0
 wp_delta
 rw [show splitId id0 = some ("set", "__len__") from by subst hid; decide +kernel]
 subst hid
 refine wpAny_bind (wpAny_isInstance (T := "set") (b := true) hT (by rw [isSubtype_type]; kernel_rfl) ?_)
 refine wpAny_ite_split (fun hab => absurd hab (by decide)) (fun _ => ?_)
 refine wpAny_ite_split (fun _ => ?_) (fun hab => absurd (by decide +kernel) hab)
 refine wpAny_bind (wpAny_typeOf hT ?_)
 exact wpAny_pure h
section
variable {w : World} {A : Around} {E : Value → Shared → Prop} {h : Heap} {gs : Array GenState} {dr : Drawn} {t : Tok} {os : OsState}
theorem iter_set {a : Addr} {es : Array (Int × Value)} {ep : Nat} {tb : SetTable} {Q : Value → Shared → Prop} (hS : SetHas h a es ep tb)
  (H1 : (!byText w && (!tb.plain && decide (es.size > 1))) = false → Q (.ref h.objs.size) ⟨h.push { cls := .type "set_iterator", data := .fields #[.int 0 0, .int 0 0, .ref a, .int es.size 0, .int ep 0] }, gs, dr, t, os⟩)
  (H2 : (!byText w && (!tb.plain && decide (es.size > 1))) = true → ∀ (ys : List Nat) dr', ys.Perm (List.range es.size) →
   Q (.ref (h.objs.size + 1)) ⟨(h.push { cls := .type "tuple", data := .seq (ys.map fun i : Nat => Value.int i 0).toArray }).push { cls := .type "set_iterator", data := .fields #[.ref h.objs.size, .int 0 0, .ref a, .int es.size 0, .int ep 0] }, gs, dr', t, os⟩) (hsz : es.size ≤ 4096) :
  wpAny (model P w) A (pyIter (.ref a)) Q E ⟨h, gs, dr, t, os⟩ := by
 obtain ⟨o, ho, hex, hd, hf⟩ := id hS
 have hT : Shared.TypeIs ⟨h, gs, dr, t, os⟩ (.ref a) "set" := ⟨o, ho, hex.1⟩
 refine wpAny_pyIter_slot hT PySem.F.slot_set_iter (wpAny_call_entry PySem.F.slot_set_iter hT entry_set_iter ?_ (PySem.F.args_set_iter_1 _))
 unfold Builtin.«frozenset.__iter__» Builtin.Frozenset.slot0
 refine wpAny_bind (wpAny_bind (m := slotArgs "__iter__" 0 _) (wpAny_pure (wpAny_pure ?_)))
 unfold Builtin.Frozenset.sizeOf
 refine wpAny_bind (wpAny_bind (wpAny_setEntries_of ho hd hf (wpAny_pure ?_)))
 refine wpAny_bind ?_
 unfold setDrawn
 refine wpAny_bind (wpAny_setState_of ho hd hf ?_)
 dsimp only
 refine wpAny_bind (byText_is (wpAny_pure ?_))
 refine wpAny_ite_split (fun q => ?_) (fun q => ?_)
 ·refine wpAny_bind (draw_perm _ _ _ _ (by simp) fun ys dr' hp => ?_)
  have hlen : ys.length = es.size := by simpa using hp.length_eq
  unfold newTuple
  refine wpAny_bind (wpAny_newObj_type ?k1 ?k2)
  case k2 => show (ys.map fun (i : Nat) => rawInt i).toArray.size ≤ sizeLine; rw [sizeLine_eq]; simp; lia
  refine wpAny_bind (wpAny_setEpoch_of (o := o) (Heap.get?_push_of_some _ ho) hd hf ?_)
  unfold newFields
  refine wpAny_bind (wpAny_newObj_type ?_ (by size_fits))
  have := H2 q ys dr' hp
  refine wpAny_pure ⟨_, ⟨rfl, (exI2 ("set_iterator") _ (anI3 ⟨_, Heap.get?_push_size _ rfl, rfl⟩ slot_si_next.lookup ?_))⟩⟩
  rw [show (ys.map fun (i : Nat) => rawInt i).toArray = (ys.map fun i : Nat => Value.int i 0).toArray from rfl]
  rw [Heap.size_push]
  exact this
 ·refine wpAny_bind (wpAny_pure ?_)
  refine wpAny_bind (wpAny_setEpoch_of ho hd hf ?_)
  unfold newFields
  refine wpAny_bind (wpAny_newObj_type ?_ (by size_fits))
  exact wpAny_pure ⟨_, ⟨rfl, (exI2 ("set_iterator") _ (anI3 ⟨_, Heap.get?_push_size _ rfl, rfl⟩ slot_si_next.lookup (H1 (by have q' : ¬ ((!byText w && (!tb.plain && decide (es.size > 1))) = true) := q; simpa using q'))))⟩⟩
noncomputable def GoodFor (es : Array (Int × Value)) (Pv : Nat → Value → Prop) : Prop := ∃ xs : List Value, xs.Perm (es.toList.map (·.2)) ∧ ∀ i v, Pv i v → xs[i]? = some v
theorem collect_set {a : Addr} {l : List Str} {R : List Value → Shared → Prop} (hh : A.handled = none) (hS : TextsAt w h a l)
  (H : ∀ h' dr' t' vs ss, Keep h h' → StrsAre vs ss → ss.Perm l → R vs ⟨h', gs, dr', t', os⟩) : wpAny (model P w) A (collect (.ref a)) R E ⟨h, gs, dr, t, os⟩ := by
 obtain ⟨o, es, ep, tb, ho, hex, hd, hel, ⟨vs, hvs, ss, hss, hp⟩, hnd, hb, hf, hled⟩ := hS
 have hSH : ∀ h', Keep h h' → SetHas h' a es ep tb := fun h' k => ⟨o, k _ _ ho, hex, hd, hf⟩
 have hlt : a < h.objs.size := Heap.lt_size ho
 have hsz : es.size ≤ 4096 := by unfold scanBound at hb; lia
 refine collect_via (T := "set") (n := es.size) (GoodFor es) (fun h' k gs dr t os => ⟨o, k _ _ ho, hex.1⟩) (by decide) (by decide) (fun A' E' s Q hT hq => hint_set hT hq) (Nat.ne_of_lt hlt) (by rw [sizeLine_eq]; lia)
  (fun h₁ Q E' k hne HQ => ?_) fun h' dr' t' vs' Pv hg k hl hv => ?_
 ·have hlt1 : a < h₁.objs.size := Heap.lt_size (k _ _ ho)
  have hSlt : h.objs.size < h₁.objs.size := by
   cases q : h₁.get? h.objs.size with
   | none => exact absurd q hne
   | some o' => exact Heap.lt_size q
  have hnw : h.get? h₁.objs.size = none := by
   cases q : h.get? h₁.objs.size with
   | none => rfl
   | some o' => exact absurd (Nat.lt_trans hSlt (Heap.lt_size q)) (Nat.lt_irrefl _)
  have n1 : h.objs.size ≠ h₁.objs.size := Nat.ne_of_lt hSlt
  have n2 : h.objs.size ≠ a := Nat.ne_of_gt hlt
  have n3 : h.objs.size ≠ h₁.objs.size + 1 := Nat.ne_of_lt (Nat.lt_succ_of_lt hSlt)
  have n4 : a ≠ h₁.objs.size + 1 := Nat.ne_of_lt (Nat.lt_succ_of_lt hlt1)
  have n5 : h₁.objs.size ≠ h₁.objs.size + 1 := Nat.ne_of_lt (Nat.lt_succ_self _)
  refine iter_set (hSH h₁ k) (fun hc => ?_) (fun hc ys dr' hy => ?_) hsz
  ·by_cases hbt : byText w = true
   ·refine HQ h₁.objs.size [h₁.objs.size, a] [h₁.objs.size] _ _ _ _ _ ?_ (Keep.push _ _) (walk_text (A := A.in1) hh hbt (Nat.ne_of_lt hlt1) (es := es) (ep := ep) (t := tb)) ⟨⟨_, Heap.get?_push_size _ rfl, rfl, rfl⟩, (hSH h₁ k).at fun o e => Heap.get?_push_of_some _ e⟩ (by simp [n1, n2]) (fun b mb => by rw [List.mem_singleton.mp mb]; exact hnw)
    refine ⟨(pickOrder (w.params.setOrder a ep) es).toList.map (·.2), (pick_perm _ _).map _, ?_⟩
    rintro i v ⟨e, he, rfl⟩
    rw [List.getElem?_map, Array.getElem?_toList, he]; rfl
   ·have hbf : byText w = false := by simpa using hbt
    have h1 : es.size ≤ 1 := by
     by_cases z : 0 < es.size
     ·have hpl := hled.2 z
      rw [hbf, hpl] at hc
      simpa using hc
     ·lia
    refine HQ h₁.objs.size [h₁.objs.size, a] [h₁.objs.size] _ _ _ _ _ ?_ (Keep.push _ _) (walk_one (A := A.in1) hh hbf (Nat.ne_of_lt hlt1) (es := es) (ep := ep) (t := tb) h1 (hled.1 hbf)) ⟨⟨0, (anI3 ⟨_, Heap.get?_push_size _ rfl, rfl, rfl⟩ (fun _ => rfl) (fun z => absurd z (Nat.lt_irrefl _)))⟩, (hSH h₁ k).at fun o e => Heap.get?_push_of_some _ e⟩ (by simp [n1, n2]) (fun b mb => by rw [List.mem_singleton.mp mb]; exact hnw)
    refine ⟨es.toList.map (·.2), List.Perm.refl _, ?_⟩
    rintro i v ⟨e, he, rfl⟩
    rw [List.getElem?_map, Array.getElem?_toList, he]; rfl
  ·have hnw2 : h.get? (h₁.objs.size + 1) = none := by
    cases q : h.get? (h₁.objs.size + 1) with
    | none => rfl
    | some o' => exact absurd (Nat.lt_trans (Nat.lt_succ_of_lt hSlt) (Heap.lt_size q)) (Nat.lt_irrefl _)
   have e1 : h₁.objs.size + 1 = (h₁.push { cls := .type "tuple", data := .seq (ys.map fun i : Nat => Value.int i 0).toArray }).objs.size := (Heap.size_push ..).symm
   have kp2 := (Keep.push h₁ { cls := .type "tuple", data := .seq (ys.map fun i : Nat => Value.int i 0).toArray }).trans (Keep.push _ { cls := .type "set_iterator", data := .fields #[.ref h₁.objs.size, .int 0 0, .ref a, .int es.size 0, .int ep 0] })
   refine HQ (h₁.objs.size + 1) [h₁.objs.size + 1, a, h₁.objs.size] [h₁.objs.size + 1] _ _ _ _ _ ?_ kp2 (walk_drawn (A := A.in1) hh (T := h₁.objs.size) n4 n5 (es := es) (ep := ep) (t := tb) hy) ⟨⟨⟨_, by rw [e1]; exact Heap.get?_push_size _ rfl, rfl, rfl⟩, (hSH h₁ k).at fun o e => kp2 _ _ e⟩, ⟨_, Heap.get?_push_of_some _ (Heap.get?_push_size _ rfl), rfl, 0, rfl⟩⟩ (by simp [n1, n2, n3]) (fun b mb => by rw [List.mem_singleton.mp mb]; exact hnw2)
   have hper : (ys.filterMap fun k => (es[k]?).map (·.2)).Perm (es.toList.map (·.2)) := by
    have h1 := hy.filterMap fun k => (es[k]?).map fun e : Int × Value => e.2
    have h2 : (List.range es.size).filterMap (fun k => (es[k]?).map fun e : Int × Value => e.2) = es.toList.map (·.2) := by
     rw [← filterMap_getElem?_range es, List.map_filterMap]
    rwa [h2] at h1
   refine ⟨_, hper, ?_⟩
   intro i v zI
   (refine exE2 zI fun k' e zr2 => anE3 zr2 fun hk' he ze1 => ?_; clear zI zr2; subst ze1)
   have hall : ∀ x ∈ ys, x < es.size := fun x hx => by simpa using hy.mem_iff.mp hx
   have hmap : ys.filterMap (fun k => (es[k]?).map fun e : Int × Value => e.2) = ys.map fun k => (es.getD k (0, .none)).2 := by
    have gen : ∀ zs : List Nat, (∀ x ∈ zs, x < es.size) → zs.filterMap (fun k => (es[k]?).map fun e : Int × Value => e.2) = zs.map fun k => (es.getD k (0, .none)).2 := by
     intro zs
     induction zs with
     | nil => intro _; rfl
     | cons z zs ih =>
      intro hz
      have h1 := hz z mem0
      rw [List.filterMap_cons, Array.getElem?_eq_getElem h1, List.map_cons, ← ih fun x hx => hz x (.tail _ hx)]
      simp [Array.getD, h1]
    exact gen ys hall
   rw [hmap, List.getElem?_map, hk']
   simp [Array.getD_eq_getD_getElem?, he]
 ·obtain ⟨xs, hx1, hx2⟩ := hg
  have hxl : xs.length = es.size := by rw [hx1.length_eq]; simp
  have e : vs' = xs := by
   apply List.ext_getElem?
   intro i
   rcases Nat.lt_or_ge i vs'.length with z | z
   ·have h1 := List.getElem?_eq_getElem z
    rw [h1, hx2 i _ (hv i _ h1)]
   ·rw [List.getElem?_eq_none z, List.getElem?_eq_none (by lia)]
  subst e
  rw [hvs] at hx1
  obtain ⟨ss', a1, a2⟩ := StrsAre.perm hx1 hss
  exact H h' dr' t' _ ss' k a1 (a2.trans hp)
end
end
section
open PySem PySem.W PyProof.Rows
section
variable {w : World} {A : Around} {E : Value → Shared → Prop} {s : Shared}
noncomputable abbrev newSetObj (w : World) : Obj := { cls := .type "set", dict := none, data := .set #[] 0 (.fresh 0 0 (!byText w)) }
theorem code_setN (args : List Value) (hc : checkBuiltinCall "set.__new__" ⟨.type "set" :: args, []⟩ = pure ()) {Q₁ : Value → Shared → Prop} (h : Q₁ (.ref s.heap.objs.size) { s with heap := s.heap.push (newSetObj w) }) :
  codeAny (model P w) A (.call (.builtin "set.__new__") ⟨.type "set" :: args, []⟩) (wants Q₁ E) s := by
 refine codeAny_of_tree ?_
 show wpAny _ A.in1 (do checkBuiltinCall "set.__new__" ⟨.type "set" :: args, []⟩; again (.builtin "set.__new__" ⟨.type "set" :: args, []⟩)) _ _ s
 refine wpAny_bind (wpAny_of_eq hc (wpAny_pure ⟨plainId_quiet F.plain_set_new _, codeAny_builtin F.entry_set_new ?_⟩))
 rw [Around.under_plainId F.plain_set_new _]
 unfold Builtin.«set.__new__» Builtin.Frozenset.newClass
 have hsub := sub_set_self
 obtain ⟨hp, g, d, tk, os⟩ := s
 dsimp only
 wp_walk
 refine wpAny_askSetting (wpAny_pure ?_)
 dsimp only
 refine wpAny_bind (wpAny_alloc (wpAny_pure ?_))
 exact wpAny_pure h
set_option maxHeartbeats 3200000 in
theorem call_setL {x : Value} {Q : Value → Shared → Prop}
  (hU : ∀ A' : Around, A'.handled = A.handled → ∀ Q' : Unit → Shared → Prop, ∀ E', (∀ s', Q (.ref s.heap.objs.size) s' → Q' () s') →
   wpAny (model P w) A' (Builtin.Frozenset.updateFrom "set.__init__" s.heap.objs.size x) Q' E' { s with heap := s.heap.push (newSetObj w) }) :
  wpAny (model P w) A (call (.type "set") [x]) Q E s := by
 refine exE2 F.called_set.mro fun c tl hmro => ?_
 have hmade := F.called_set.made
 have hsub := F.called_set.sub
 refine wpAny_call (codeAny_of_tree ?_)
 show wpAny _ _ (callAny (.type "set") _) _ _ _
 refine wpAny_pure ⟨Code.quiet_builtin _ (by decide +kernel), codeAny_builtin F.entry_type_call ?_⟩
 rw [Around.under_plain (weight_type_call_type "set" [x] []) rfl]
 have h1 := F.called_set.notType
 have h2 := F.called_set.canCreate
 have hct := F.typeCall_set_1 x
 repeat (any_goals (first | assumption | wp_step))
 refine codeAny_mono (code_setN [x] (F.newCall_set_1 x) (E := E) (Q₁ := fun obj s₁ => obj = .ref s.heap.objs.size ∧ s₁ = { s with heap := s.heap.push (newSetObj w) }) ⟨rfl, rfl⟩) fun r s₁ hr => ?_
 cases r with
 | error e => exact hr
 | ok fl =>
  cases fl with
  | ret obj =>
   obtain ⟨rfl, rfl⟩ := hr
   have hS : (s.heap.push (newSetObj w)).get? s.heap.objs.size = some (newSetObj w) := Heap.get?_push_size _ rfl
   have hT : Shared.TypeIs { s with heap := s.heap.push (newSetObj w) } (.ref s.heap.objs.size) "set" := ⟨_, hS, rfl⟩
   have hli := F.called_set.init.lookup
   have hbi := F.called_set.init.bind (.ref s.heap.objs.size)
   repeat (any_goals (first | assumption | wp_step))
   refine codeAny_mono (codeAny_call_builtin (R := wants (fun r s₂ => r = .none ∧ Q (.ref s.heap.objs.size) s₂) E) F.called_set.init.plain F.entry_set_init (check_set_init_1 hT ?_)) fun r₂ s₂ hr₂ => ?_
   ·have hfill : SetTable.fill (.fresh 0 0 (!byText w)) = 0 := rfl
    unfold Builtin.«set.__init__» noKeywords
    generalize hUF : Builtin.Frozenset.updateFrom = UF
    wp_walk
    subst hUF
    refine hU _ (by rfl) _ _ fun s' hq => ?_
    show wpAny _ _ (ret Value.none) _ _ _
    exact wpAny_pure ⟨rfl, hq⟩
   ·cases r₂ with
    | error e => exact hr₂
    | ok fl₂ =>
     cases fl₂ with
     | ret r =>
      obtain ⟨rfl, hq⟩ := hr₂
      repeat (any_goals (first | assumption | wp_step))
     | _ => exact hr₂.elim
  | _ => exact hr.elim
theorem fresh_texts {h : Heap} {a : Addr} (e : h.get? a = some (newSetObj w)) : TextsAt w h a [] :=
 ⟨_, #[], 0, _, e, ⟨rfl, rfl, rfl⟩, rfl, fun _ m => by simp at m, ⟨[], rfl, [], .nil, List.Perm.refl _⟩, List.nodup_nil, by decide, by cases byText w <;> decide, fun hb => by rw [hb]; rfl, fun z => by simp at z⟩
noncomputable def addsT (l : List Str) (xs : List Str) : List Str := xs.foldl addT l
theorem addT_len (l : List Str) (x : Str) : (addT l x).length ≤ l.length + 1 := by
 unfold addT; split <;> simp
theorem texts_loop {S I : Addr} {fp wr : List Addr} {n : Nat} {Pv : Nat → Value → Prop} {St : Nat → Heap → Prop} {R : Result → Shared → Prop} (W : Walks P w A.in1 I fp wr n Pv St) (hSf : S ∉ fp) (val : Nat → Str) (hval : ∀ i v, i < n → Pv i v → ∃ t, v = .str (val i) t) :
  ∀ (k i : Nat) (s : Shared) (l : List Str), n - i = k → i ≤ n → St i s.heap → TextsAt w s.heap S l → l.length + (n - i) ≤ 3000 →
   (∀ h' t', (∀ b o, b ≠ S → b ∉ wr → s.heap.get? b = some o → h'.get? b = some o) → TextsAt w h' S (addsT l ((List.range' i (n - i)).map val)) → R (.ok (.ret .none)) { s with heap := h', toks := t' }) →
   codeAny (model P w) A (.builtin "set.update.loop" ⟨[.ref S, .ref I], []⟩) R s := by
 have hSw : S ∉ wr := fun h => hSf (W.sub _ h)
 have tat : ∀ {h h' : Heap} {l : List Str}, TextsAt w h S l → (∀ o, h.get? S = some o → h'.get? S = some o) → TextsAt w h' S l := fun x e => by obtain ⟨o, es, ep, t, ho, r⟩ := x; exact ⟨o, es, ep, t, e _ ho, r⟩
 intro k
 induction k with
 | zero =>
  intro i s l hk hi hst hS hl H
  have hin : i = n := by omega
  subst hin
  refine codeAny_builtin F.entry_set_update_loop ?_
  rw [Around.under_plainId F.plain_set_update_loop _]
  show wpAny _ A.in1 (pyNext (.ref I) >>= _) _ _ s
  refine wpAny_bind (W.done s _ _ hst fun h' tk hm => ?_)
  show wpAny _ A.in1 (ret Value.none) _ _ _
  refine wpAny_pure (H h' tk (fun b o _ hb e => hm b o hb e) ?_)
  rw [Nat.sub_self]
  exact tat hS fun o e => hm S o hSw e
 | succ k ih =>
  intro i s l hk hi hst hS hl H
  have hlt : i < n := by omega
  refine codeAny_builtin F.entry_set_update_loop ?_
  rw [Around.under_plainId F.plain_set_update_loop _]
  show wpAny _ A.in1 (pyNext (.ref I) >>= _) _ _ s
  refine wpAny_bind (W.item i s _ _ hlt hst fun v h' tk hP hst' hm => ?_)
  obtain ⟨t, rfl⟩ := hval i v hlt hP
  have hS' : TextsAt w h' S l := tat hS fun o e => hm S o hSw e
  show wpAny _ A.in1 (holding [Value.str (val i) t] (setAdd S (.str (val i) t)) >>= _) _ _ _
  refine wpAny_bind (wpAny_holding ?_)
  unfold setAdd
  refine wpAny_holding ?_
  refine wpAny_bind ((SK w).pyHash (k := val i) (strKind_is _ _ _ _) ?_)
  refine addText (s := { s with heap := h', toks := tk + 1 }) hS' (by unfold scanBound; omega) fun b h'' sb hS'' => ?_
  have hadd := addT_len l (val i)
  refine wpAny_pure ⟨plainId_quiet F.plain_set_update_loop _, ih (i + 1) _ (addT l (val i)) (by omega) hlt (W.frame _ _ _ hst' fun b hb o e => ?_) hS'' (by omega) fun h₃ t₃ hk₃ hS₃ => ?_⟩
  ·rw [sb.2 b (fun h : b = S => hSf (by rw [← h]; exact hb))]; exact e
  ·refine H h₃ t₃ (fun b o nb hb e => hk₃ b o nb hb ((sb.2 b nb).trans (hm b o hb e))) ?_
   have e : n - i = (n - (i + 1)) + 1 := by omega
   rw [e, List.range'_succ]
   exact hS₃
theorem set_of_list {a : Addr} {vs : Array Value} {ss : List Str} {Q : Value → Shared → Prop} (hh : A.handled = none) (hl : s.heap.IsList a vs) (hs : StrsAre vs.toList ss) (hn : ss.length ≤ 1000)
  (H : ∀ h' t', (∀ b o, s.heap.get? b = some o → h'.get? b = some o) → TextsAt w h' s.heap.objs.size (addsT [] ss) → Q (.ref s.heap.objs.size) { s with heap := h', toks := t' }) :
  wpAny (model P w) A (call (.type "set") [.ref a]) Q E s := by
 have hlen : vs.size = ss.length := by have := hs.length; simpa using this
 have halt : a < s.heap.objs.size := by obtain ⟨o, ho, _⟩ := hl; exact Heap.lt_size ho
 refine call_setL fun A' hA' Q' E' hQ' => ?_
 have hl1 : (s.heap.push (newSetObj w)).IsList a vs := hl.push _
 have hT : Shared.TypeIs { s with heap := s.heap.push (newSetObj w) } (.ref a) "list" := hl1.typeIs
 unfold Builtin.Frozenset.updateFrom
 refine wpAny_bind (isSet_not hT PySem.F.sub_list_set PySem.F.sub_list_frozenset ?_)
 rw [if_neg Bool.false_ne_true]
 refine wpAny_bind (wpAny_typeOf hT ?_)
 rw [if_neg (show ¬ (Value.type "list" == Value.type "dict") = true by decide)]
 refine wpAny_bind (wpAny_pyIter_list hl1 ?_)
 refine wpAny_bind (wpAny_runValue ?_)
 have hsz : (s.heap.push (newSetObj w)).objs.size = s.heap.objs.size + 1 := Heap.size_push ..
 have hS0 : TextsAt w ((s.heap.push (newSetObj w)).push { cls := .type "list_iterator", data := .fields #[.ref a, .int 0 0] }) s.heap.objs.size [] := fresh_texts (Heap.get?_push_of_some _ (Heap.get?_push_size _ rfl))
 have n1 : a ≠ (s.heap.push (newSetObj w)).objs.size := by rw [hsz]; exact Nat.ne_of_lt (Nat.lt_succ_of_lt halt)
 have n2 : s.heap.objs.size ≠ (s.heap.push (newSetObj w)).objs.size := by rw [hsz]; exact Nat.ne_of_lt (Nat.lt_succ_self _)
 have n3 : s.heap.objs.size ≠ a := Nat.ne_of_gt halt
 refine texts_loop (A := A') (Walks.list (A := A'.in1) (show A'.handled = none from hA'.trans hh) _ a n1 vs) (by simp [n2, n3]) (fun i => ss.getD i "") (fun i v hi e => ?_) vs.size 0 _ [] (Nat.sub_zero _) (Nat.zero_le _) ⟨⟨_, Heap.get?_push_size _ rfl, rfl, rfl⟩, hl1.push _⟩ hS0 (by simp; omega) fun h' t' hk hS' => ?_
 ·obtain ⟨x, hx⟩ : ∃ x, ss[i]? = some x := ⟨ss[i]'(by omega), List.getElem?_eq_getElem _⟩
  obtain ⟨t, ht⟩ := hs.get i x hx
  rw [Array.getElem?_toList, e] at ht
  cases ht
  exact ⟨t, by simp [List.getD, hx]⟩
 ·refine wpAny_pure (hQ' _ (H h' t' (fun b o e => hk b o (fun z => ?_) (fun z => ?_) (Heap.get?_push_of_some _ (Heap.get?_push_of_some _ e))) ?_))
  ·rw [z, size_none] at e; cases e
  ·have := Heap.lt_size e
   rw [List.mem_singleton.mp z, hsz] at this
   exact absurd (Nat.lt_of_succ_lt this) (Nat.lt_irrefl _)
  ·rw [Nat.sub_zero, hlen, ← List.range_eq_range'] at hS'
   have : (List.range ss.length).map (fun i => ss.getD i "") = ss := by
    apply List.ext_getElem
    ·simp
    ·intro i h1 h2
     simp [List.getD, h2]
   rw [this] at hS'
   exact hS'
end
end
section
open PySem PySem.W PyProof.Rows
noncomputable def stp (m : Nat) (p : SetTable.Probe) : SetTable.Probe :=
 if p.more > 0 then { p with j := p.j + 1, more := p.more - 1 } else
  { p with j := (SetTable.leap m p.i p.perturb).1, more := SetTable.runEnd m (SetTable.leap m p.i p.perturb).1 - (SetTable.leap m p.i p.perturb).1, i := (SetTable.leap m p.i p.perturb).1, perturb := (SetTable.leap m p.i p.perturb).2 }
noncomputable def pth (m : Nat) (h : Int) : Nat → SetTable.Probe
 | 0 => { j := SetTable.bits h % (m + 1), more := SetTable.runEnd m (SetTable.bits h % (m + 1)) - SetTable.bits h % (m + 1), i := SetTable.bits h % (m + 1), perturb := SetTable.bits h, dummy := none }
 | k + 1 => stp m (pth m h k)
theorem pth_succ (m : Nat) (h : Int) (k : Nat) : pth m h (k + 1) = stp m (pth m h k) := rfl
theorem pth_start (t : SetTable) (h : Int) : t.probeStart h = pth t.mask h 0 := rfl
theorem pth_adv (t : SetTable) (h : Int) (k : Nat) : t.advance (pth t.mask h k) = pth t.mask h (k + 1) := rfl
theorem pth_dummy (m : Nat) (h : Int) : ∀ k, (pth m h k).dummy = none
 | 0 => rfl
 | k + 1 => by
  have ih := pth_dummy m h k
  rw [pth_succ]
  unfold stp
  split <;> exact ih
noncomputable def run0 (m : Nat) (h : Int) : Nat → Nat × Nat
 | 0 => (SetTable.bits h % (m + 1), SetTable.bits h)
 | r + 1 => SetTable.leap m (run0 m h r).1 (run0 m h r).2
noncomputable def runAt (m : Nat) (h : Int) (r k : Nat) : Prop := pth m h k = { j := (run0 m h r).1, more := SetTable.runEnd m (run0 m h r).1 - (run0 m h r).1, i := (run0 m h r).1, perturb := (run0 m h r).2, dummy := none }
theorem runEnd_ge (m i : Nat) : i ≤ SetTable.runEnd m i := by unfold SetTable.runEnd; split <;> lia
theorem runEnd_le (m i : Nat) : SetTable.runEnd m i ≤ i + 9 := by unfold SetTable.runEnd; split <;> lia
theorem runEnd_m {m i : Nat} (h : i ≤ m) : SetTable.runEnd m i ≤ m := by unfold SetTable.runEnd; split <;> lia
theorem run0_le (m : Nat) (h : Int) : ∀ r, (run0 m h r).1 ≤ m
 | 0 => by have := Nat.mod_lt (SetTable.bits h) (show 0 < m + 1 by lia); unfold run0; dsimp only; lia
 | r + 1 => by
  unfold run0 SetTable.leap
  have := Nat.mod_lt ((run0 m h r).1 * 5 + 1 + (run0 m h r).2 / 32) (show 0 < m + 1 by lia)
  dsimp only; lia
theorem run_in {m : Nat} {h : Int} {r k : Nat} (x : runAt m h r k) : ∀ c, c ≤ SetTable.runEnd m (run0 m h r).1 - (run0 m h r).1 →
  pth m h (k + c) = { j := (run0 m h r).1 + c, more := SetTable.runEnd m (run0 m h r).1 - (run0 m h r).1 - c, i := (run0 m h r).1, perturb := (run0 m h r).2, dummy := none }
 | 0, _ => x
 | c + 1, hc => by
  have ih := run_in x c (by lia)
  rw [show k + (c + 1) = (k + c) + 1 from rfl, pth_succ, ih]
  unfold stp
  dsimp only
  rw [if_pos (by lia)]
  congr 1
theorem run_next {m : Nat} {h : Int} {r k : Nat} (x : runAt m h r k) : runAt m h (r + 1) (k + (SetTable.runEnd m (run0 m h r).1 - (run0 m h r).1) + 1) := by
 have ih := run_in x _ (Nat.le_refl _)
 unfold runAt
 rw [pth_succ, ih]
 unfold stp
 dsimp only
 rw [if_neg (by lia)]
 rfl
theorem run_idx (m : Nat) (h : Int) : ∀ r, ∃ k, k ≤ 10 * r ∧ runAt m h r k
 | 0 => ⟨0, Nat.le_refl _, rfl⟩
 | r + 1 => by
  obtain ⟨k, h1, h2⟩ := run_idx m h r
  have := runEnd_le m (run0 m h r).1
  exact ⟨_, by lia, run_next h2⟩
theorem pth_le (m : Nat) (h : Int) : ∀ k, (pth m h k).j ≤ m := by
 have key : ∀ k, ∃ r k0 c, runAt m h r k0 ∧ c ≤ SetTable.runEnd m (run0 m h r).1 - (run0 m h r).1 ∧ k = k0 + c := by
  intro k
  induction k with
  | zero => exact (exI3 0 0 0 (anI3 rfl (Nat.zero_le _) rfl))
  | succ k ih =>
   (refine exE3 ih fun r k0 c zr1 => anE3 zr1 fun h1 h2 h3 => ?_; clear ih zr1)
   by_cases hc : c + 1 ≤ SetTable.runEnd m (run0 m h r).1 - (run0 m h r).1
   ·exact (exI3 r k0 (c + 1) (anI3 h1 hc (by lia)))
   ·exact (exI3 (r + 1) _ 0 (anI3 (run_next h1) (Nat.zero_le _) (by lia)))
 intro k
 (refine exE3 (key k) fun r k0 c zr3 => anE3 zr3 fun h1 h2 ze2 => ?_; clear zr3; subst ze2)
 rw [run_in h1 c h2]
 have := runEnd_m (run0_le m h r)
 have := runEnd_ge m (run0 m h r).1
 dsimp only
 lia
noncomputable def Covers (m : Nat) : Prop := ∀ h j, j ≤ m → ∃ r, r < SetTable.turns m ∧ (run0 m h r).1 = j
noncomputable def lcg (m : Nat) : Nat → Nat → Nat
 | 0, x => x
 | n + 1, x => lcg m n ((x * 5 + 1) % (m + 1))
theorem perturb_lt (m : Nat) (h : Int) : ∀ r, (run0 m h r).2 * 32 ^ r < 2 ^ 64 := by
 intro r
 induction r with
 | zero =>
  show SetTable.bits h * 32 ^ 0 < 2 ^ 64
  unfold SetTable.bits
  have h1 : h % (2 ^ 64 : Int) < 2 ^ 64 := Int.emod_lt_of_pos _ (by decide)
  have h0 : 0 ≤ h % (2 ^ 64 : Int) := Int.emod_nonneg _ (by decide)
  lia
 | succ r ih =>
  show ((run0 m h r).2 / 32) * 32 ^ (r + 1) < 2 ^ 64
  have : (run0 m h r).2 / 32 * 32 ≤ (run0 m h r).2 := Nat.div_mul_le_self _ _
  calc ((run0 m h r).2 / 32) * 32 ^ (r + 1) = ((run0 m h r).2 / 32 * 32) * 32 ^ r := by rw [Nat.pow_succ]; ac_rfl
   _ ≤ (run0 m h r).2 * 32 ^ r := Nat.mul_le_mul_right _ this
   _ < 2 ^ 64 := ih
theorem perturb_zero (m : Nat) (h : Int) : ∀ r, 13 ≤ r → (run0 m h r).2 = 0 := by
 intro r hr
 have := perturb_lt m h r
 have h32 : 32 ^ 13 ≤ 32 ^ r := Nat.pow_le_pow_right (by decide) hr
 rcases Nat.eq_zero_or_pos (run0 m h r).2 with z | z
 ·exact z
 ·have h2 : 32 ^ r ≤ (run0 m h r).2 * 32 ^ r := Nat.le_mul_of_pos_left _ z
  have h3 : (2 : Nat) ^ 64 < 32 ^ 13 := by decide
  lia
theorem run_lcg (m : Nat) (h : Int) : ∀ n r, 13 ≤ r → (run0 m h (r + n)).1 = lcg m n (run0 m h r).1
 | 0, r, _ => rfl
 | n + 1, r, hr => by
  rw [show r + (n + 1) = (r + 1) + n by lia, run_lcg m h n (r + 1) (by lia)]
  show lcg m n (((run0 m h r).1 * 5 + 1 + (run0 m h r).2 / 32) % (m + 1)) = _
  rw [perturb_zero m h r hr]
  rfl
theorem lcg_add (m : Nat) : ∀ a b x, lcg m (a + b) x = lcg m b (lcg m a x)
 | 0, b, x => by rw [Nat.zero_add]; rfl
 | a + 1, b, x => by rw [show a + 1 + b = (a + b) + 1 by lia]; exact lcg_add m a b _
noncomputable def roundOk (m : Nat) : Bool := (List.range (m + 1)).all (fun j => (List.range (m + 1)).any fun n => lcg m n 0 == j) && lcg m (m + 1) 0 == 0
theorem covers_of {m : Nat} (ok : roundOk m = true) : Covers m := by
 intro h j hj
 unfold roundOk at ok
 rw [Bool.and_eq_true, List.all_eq_true] at ok
 obtain ⟨ok1, ok2⟩ := ok
 have at0 : ∀ j, j ≤ m → ∃ n, n ≤ m ∧ lcg m n 0 = j := fun j hj => by
  have := ok1 j (List.mem_range.mpr (by lia))
  obtain ⟨n, hn, e⟩ := List.any_eq_true.mp this
  exact ⟨n, by have := List.mem_range.mp hn; lia, beq_iff_eq.mp e⟩
 have ok2' : lcg m (m + 1) 0 = 0 := beq_iff_eq.mp ok2
 obtain ⟨a, ha, ea⟩ := at0 (run0 m h 13).1 (run0_le m h 13)
 obtain ⟨b, hb, eb⟩ := at0 j hj
 have key : ∃ n, n ≤ m ∧ lcg m n (run0 m h 13).1 = j := by
  by_cases hab : a ≤ b
  ·exact ⟨b - a, by lia, by rw [← ea, ← lcg_add, show a + (b - a) = b by lia, eb]⟩
  ·refine ⟨(m + 1 - a) + b, by lia, ?_⟩
   rw [← ea, ← lcg_add, show a + (m + 1 - a + b) = (m + 1) + b by lia, lcg_add, ok2', eb]
 obtain ⟨n, hn, en⟩ := key
 exact ⟨13 + n, by unfold SetTable.turns; lia, by rw [run_lcg m h n 13 (Nat.le_refl _), en]⟩
theorem covers7 : Covers 7 := covers_of (by decide +kernel)
theorem covers31 : Covers 31 := covers_of (by decide +kernel)
theorem covers127 : Covers 127 := covers_of (by decide +kernel)
end
section
open PySem PySem.W PyProof.Rows
theorem least {p : Nat → Prop} : ∀ n, p n → ∃ k, k ≤ n ∧ p k ∧ ∀ c, c < k → ¬ p c := by
 intro n
 induction n using Nat.strongRecOn with
 | ind n ih =>
  intro hn
  by_cases h : ∃ c, c < n ∧ p c
  ·obtain ⟨c, hc, hp⟩ := h
   (refine Exists.elim (ih c hc hp) fun k zr1 => anE3 zr1 fun h1 h2 h3 => ?_; clear zr1)
   exact ⟨k, (anI3 (by lia) h2 h3)⟩
  ·exact ⟨n, (anI3 (Nat.le_refl _) hn (fun c hc hp => h ⟨c, hc, hp⟩))⟩
theorem sub_len : ∀ (a b : List Nat), a.Nodup → (∀ x ∈ a, x ∈ b) → a.length ≤ b.length
 | [], b, _, _ => Nat.zero_le _
 | x :: a, b, hn, hs => by
  have hx := hs x mem0
  rw [List.nodup_cons] at hn
  have := sub_len a (b.erase x) hn.2 fun y hy => (List.mem_erase_of_ne (show y ≠ x from fun e => hn.1 (by rw [← e]; exact hy))).mpr (hs y (.tail _ hy))
  rw [List.length_erase_of_mem hx] at this
  have : 0 < b.length := List.length_pos_of_mem hx
  rw [List.length_cons]; lia
theorem below_go (xs : Array Nat) (j : Nat) : ∀ (fuel lo hi : Nat), hi - lo ≤ fuel → lo ≤ hi → hi ≤ xs.size → (∀ i, i < lo → xs.getD i j < j) → (∀ i, hi ≤ i → i < xs.size → ¬ xs.getD i j < j) → (∀ i k, i < k → k < xs.size → xs.getD i j < xs.getD k j) →
  ∃ p, SetTable.below.go xs j fuel lo hi = p ∧ p ≤ xs.size ∧ (∀ i, i < p → xs.getD i j < j) ∧ (∀ i, p ≤ i → i < xs.size → ¬ xs.getD i j < j)
 | 0, lo, hi, hf, hl, hh, h1, h2, _ => ⟨lo, (anI4 rfl (by lia) h1 (fun i hi' => h2 i (by lia)))⟩
 | fuel + 1, lo, hi, hf, hl, hh, h1, h2, hr => by
  unfold SetTable.below.go
  by_cases hlt : lo < hi
  ·rw [if_pos hlt]
   dsimp only
   by_cases hm : xs.getD ((lo + hi) / 2) j < j
   ·rw [if_pos hm]
    refine below_go xs j fuel _ _ (by lia) (by lia) hh (fun i hi' => ?_) h2 hr
    rcases Nat.lt_or_ge i ((lo + hi) / 2) with a | a
    ·exact Nat.lt_trans (hr i _ a (by lia)) hm
    ·rw [show i = (lo + hi) / 2 by lia]; exact hm
   ·rw [if_neg hm]
    refine below_go xs j fuel _ _ (by lia) (by lia) (by lia) h1 (fun i hi' his hlt' => ?_) hr
    rcases Nat.lt_or_ge ((lo + hi) / 2) i with a | a
    ·exact hm (Nat.lt_trans (hr _ i a his) hlt')
    ·rw [show i = (lo + hi) / 2 by lia] at hlt'; exact hm hlt'
  ·rw [if_neg hlt]
   exact ⟨lo, (anI4 rfl (by lia) h1 (fun i hi' => h2 i (by lia)))⟩
noncomputable abbrev Zs := List (Nat × Int × Value)
noncomputable def Reach (m : Nat) (pl : List Nat) (h : Int) (j : Nat) : Prop := ∃ k, (pth m h k).j = j ∧ ∀ c, c < k → (pth m h c).j ∈ pl
noncomputable def Free (m : Nat) (pl : List Nat) (h : Int) (k : Nat) : Prop := (pth m h k).j ∉ pl ∧ ∀ c, c < k → (pth m h c).j ∈ pl
structure Tab (t : SetTable) (es : Array (Int × Value)) (zs : Zs) : Prop where
 place : t.place.toList = zs.map (·.1)
 ents : es.toList = zs.map (·.2)
 dum : t.dummies = #[]
 rise : zs.Pairwise (fun a b => a.1 < b.1)
 le : ∀ z ∈ zs, z.1 ≤ t.mask
 covers : Covers t.mask
 fill : zs.length ≤ t.mask
 reach : ∀ z ∈ zs, Reach t.mask (zs.map (·.1)) z.2.1 z.1
theorem Reach.mono {m : Nat} {pl pl' : List Nat} {h : Int} {j : Nat} (x : Reach m pl h j) (s : ∀ y ∈ pl, y ∈ pl') : Reach m pl' h j :=
 by obtain ⟨k, a, b⟩ := x; exact ⟨k, a, fun c hc => s _ (b c hc)⟩
theorem exists_free {m : Nat} {pl : List Nat} (cv : Covers m) (hl : pl.length ≤ m) (h : Int) : ∃ k, k < 10 * SetTable.turns m ∧ Free m pl h k := by
 have : ∃ e, e ≤ m ∧ e ∉ pl := by
  apply Classical.byContradiction
  intro hn
  have := sub_len (List.range (m + 1)) pl List.nodup_range fun x hx => by
   apply Classical.byContradiction
   intro hx'
   exact hn ⟨x, by have := List.mem_range.mp hx; lia, hx'⟩
  rw [List.length_range] at this; lia
 obtain ⟨e, he, hp⟩ := this
 obtain ⟨r, hr, er⟩ := cv h e he
 obtain ⟨k, hk, hat⟩ := run_idx m h r
 have hkk : (pth m h k).j ∉ pl := by
  unfold runAt at hat
  rw [hat]
  show (run0 m h r).1 ∉ pl
  rw [er]; exact hp
 (refine Exists.elim (least (p := fun k => (pth m h k).j ∉ pl) k hkk) fun k' zr2 => anE3 zr2 fun h1 h2 h3 => ?_; clear zr2)
 exact ⟨k', by lia, h2, fun c hc => Classical.not_not.mp (h3 c hc)⟩
section
variable {t : SetTable} {es : Array (Int × Value)} {zs : Zs}
theorem Tab.size (x : Tab t es zs) : t.place.size = zs.length := by rw [← Array.length_toList, x.place, List.length_map]
theorem Tab.esize (x : Tab t es zs) : es.size = zs.length := by rw [← Array.length_toList, x.ents, List.length_map]
theorem Tab.fits (x : Tab t es zs) : t.fits es.size = true := by
 have := x.fill
 simp only [SetTable.fits, SetTable.fill, x.size, x.esize, x.dum, Bool.and_eq_true, beq_iff_eq, decide_eq_true_eq]
 exact ⟨trivial, by simpa using this⟩
theorem Tab.placeAt (x : Tab t es zs) {i : Nat} {z : Nat × Int × Value} (h : zs[i]? = some z) : t.place[i]? = some z.1 := by
 rw [← Array.getElem?_toList, x.place, List.getElem?_map, h]; rfl
theorem Tab.entAt (x : Tab t es zs) {i : Nat} {z : Nat × Int × Value} (h : zs[i]? = some z) : es[i]? = some z.2 := by
 rw [← Array.getElem?_toList, x.ents, List.getElem?_map, h]; rfl
theorem Tab.below (x : Tab t es zs) (j : Nat) : ∃ p, SetTable.below t.place j = p ∧ p ≤ zs.length ∧ (∀ i z, i < p → zs[i]? = some z → z.1 < j) ∧ (∀ i z, p ≤ i → zs[i]? = some z → j ≤ z.1) := by
 have gd : ∀ i z, zs[i]? = some z → t.place.getD i j = z.1 := fun i z h => by
  rw [Array.getD_eq_getD_getElem?, x.placeAt h]; rfl
 have ex : ∀ i, i < t.place.size → ∃ z, zs[i]? = some z := fun i hi => ⟨zs[i]'(by rw [← x.size]; exact hi), List.getElem?_eq_getElem _⟩
 have zh3 := below_go t.place j t.place.size 0 t.place.size (by lia) (by lia) (Nat.le_refl _) (fun i hi => absurd hi (Nat.not_lt_zero _)) (fun i h1 h2 => absurd h1 (by lia)) (fun i k hik hk => by
  obtain ⟨z, hz⟩ := ex i (by lia)
  obtain ⟨z', hz'⟩ := ex k hk
  rw [gd i z hz, gd k z' hz']
  have := List.pairwise_iff_getElem.mp x.rise i k (by rw [← x.size]; lia) (by rw [← x.size]; lia) hik
  obtain ⟨hi', e1⟩ := List.getElem?_eq_some_iff.mp hz
  obtain ⟨hk', e2⟩ := List.getElem?_eq_some_iff.mp hz'
  rw [e1, e2] at this; exact this)
 refine Exists.elim zh3 fun p zr4 => anE4 zr4 fun h1 h2 h3 h4 => ?_
 clear zh3 zr4
 refine ⟨p, (anI4 h1 (by rw [← x.size]; exact h2) (fun i z hi hz => ?_) (fun i z hi hz => ?_))⟩
 ·have := h3 i hi; rw [gd i z hz] at this; exact this
 ·have hlt : i < t.place.size := by rw [x.size]; exact (List.getElem?_eq_some_iff.mp hz).1
  have := h4 i hi hlt; rw [gd i z hz] at this; lia
theorem Tab.live (x : Tab t es zs) {i : Nat} {z : Nat × Int × Value} (h : zs[i]? = some z) : t.slot z.1 = .live i := by
 (refine Exists.elim (x.below z.1) fun p zr5 => anE4 zr5 fun h1 h2 h3 h4 => ?_; clear zr5)
 have hpi : p = i := by
  rcases Nat.lt_trichotomy p i with a | a | a
  ·have hlt := (List.getElem?_eq_some_iff.mp h).1
   have hz' : zs[p]? = some (zs[p]'(by lia)) := List.getElem?_eq_getElem _
   have k1 := h4 p _ (Nat.le_refl _) hz'
   have k2 := List.pairwise_iff_getElem.mp x.rise p i (by lia) hlt a
   rw [(List.getElem?_eq_some_iff.mp h).2] at k2
   lia
  ·exact a
  ·exact absurd (h3 i z a h) (Nat.lt_irrefl _)
 unfold SetTable.slot
 dsimp only
 rw [h1, hpi, x.placeAt h, if_pos (by simp)]
theorem Tab.empty (x : Tab t es zs) {j : Nat} (h : j ∉ zs.map (·.1)) : t.slot j = .empty := by
 unfold SetTable.slot
 dsimp only
 have hd : SetTable.has t.dummies j = false := by rw [x.dum]; rfl
 rw [if_neg, if_neg (by rw [hd]; exact Bool.false_ne_true)]
 intro e
 rw [beq_iff_eq, ← Array.getElem?_toList, x.place] at e
 exact h (List.mem_of_getElem? e)
theorem Tab.probe_go (x : Tab t es zs) {h : Int} {K : Nat} (fr : Free t.mask (zs.map (·.1)) h K) (ha : Nat → Int) (hha : ∀ i z, zs[i]? = some z → ha i = z.2.1) : ∀ (fuel c : Nat), c ≤ K → K - c < fuel →
  (SetTable.probe.go t ha h fuel (pth t.mask h c) = some (.empty (pth t.mask h K).j none) ∧ (∀ k, c ≤ k → k < K → ∀ z ∈ zs, z.1 = (pth t.mask h k).j → z.2.1 ≠ h)) ∨
  (∃ k i z, c ≤ k ∧ k < K ∧ zs[i]? = some z ∧ z.1 = (pth t.mask h k).j ∧ z.2.1 = h ∧ SetTable.probe.go t ha h fuel (pth t.mask h c) = some (.candidate z.1 i (pth t.mask h (k + 1))) ∧ (∀ k', c ≤ k' → k' < k → ∀ z ∈ zs, z.1 = (pth t.mask h k').j → z.2.1 ≠ h))
 | 0, c, hc, hf => absurd hf (Nat.not_lt_zero _)
 | fuel + 1, c, hc, hf => by
  unfold SetTable.probe.go
  by_cases hck : c = K
  ·subst hck
   rw [x.empty fr.1]
   dsimp only
   rw [pth_dummy]
   exact .inl ⟨rfl, fun k h1 h2 => absurd h1 (by lia)⟩
  ·have hm := fr.2 c (by lia)
   obtain ⟨z, hz, ez⟩ := List.mem_map.mp hm
   obtain ⟨i, hi, ei⟩ := List.getElem_of_mem hz
   have hzi : zs[i]? = some z := by rw [List.getElem?_eq_getElem hi, ei]
   have huniq : ∀ z' ∈ zs, z'.1 = (pth t.mask h c).j → z' = z := fun z' hz' e => by
    obtain ⟨i', hi', ei'⟩ := List.getElem_of_mem hz'
    have l1 := x.live hzi
    have l2 := x.live (show zs[i']? = some z' by rw [List.getElem?_eq_getElem hi', ei'])
    rw [e, ← ez, l1] at l2
    injection l2 with l2
    subst l2
    rw [← ei, ← ei']
   rw [← ez, x.live hzi]
   dsimp only
   rw [hha i z hzi]
   by_cases hh : z.2.1 = h
   ·rw [if_pos (by simp [hh])]
    exact .inr (exI3 c i z (anI7 (Nat.le_refl _) (by lia) hzi ez hh rfl (fun k' h1 h2 => absurd h1 (by lia))))
   ·rw [if_neg (by simp [hh])]
    rw [pth_adv]
    have more : ∀ k', c ≤ k' → k' < c + 1 → ∀ z' ∈ zs, z'.1 = (pth t.mask h k').j → z'.2.1 ≠ h := fun k' h1 h2 z' hz' e => by
     have : k' = c := by lia
     subst this
     rw [huniq z' hz' e]; exact hh
    rcases x.probe_go fr ha hha fuel (c + 1) (by lia) (by lia) with ⟨e, r⟩ | zc
    ·refine .inl ⟨e, fun k h1 h2 => ?_⟩
     rcases Nat.lt_or_ge k (c + 1) with a | a
     ·exact more k h1 a
     ·exact r k a h2
    ·(refine exE3 zc fun k i' z' zr1 => anE7 zr1 fun h1 h2 h3 h4 h5 h6 h7 => ?_; clear zc zr1)
     refine .inr (exI3 k i' z' (anI7 (by lia) h2 h3 h4 h5 h6 (fun k' q1 q2 => ?_)))
     rcases Nat.lt_or_ge k' (c + 1) with a | a
     ·exact more k' q1 a
     ·exact h7 k' a q2
theorem map_take_drop {α β : Type} (f : α → β) (l : List α) (p : Nat) (z : α) : (l.take p ++ z :: l.drop p).map f = (l.map f).take p ++ f z :: (l.map f).drop p := by simp
theorem Tab.put (x : Tab t es zs) {h : Int} {K : Nat} (fr : Free t.mask (zs.map (·.1)) h K) (v : Value) (hf : zs.length < t.mask) (u : SetTable) (hu1 : u.mask = t.mask) (hu2 : u.place = (t.put (pth t.mask h K).j).1.place) (hu3 : u.dummies = #[]) :
  ∃ zs', Tab u (SetTable.insertAt es (t.put (pth t.mask h K).j).2 (h, v)) zs' ∧ (zs'.map (·.2)).Perm (zs.map (·.2) ++ [(h, v)]) := by
 (refine Exists.elim (x.below (pth t.mask h K).j) fun p zr6 => anE4 zr6 fun h1 h2 h3 h4 => ?_; clear zr6)
 have hperm : (zs.take p ++ ((pth t.mask h K).j, h, v) :: zs.drop p).Perm (zs ++ [((pth t.mask h K).j, h, v)]) := by
  have e : zs = zs.take p ++ zs.drop p := (List.take_append_drop p zs).symm
  refine List.perm_middle.trans ?_
  rw [← e]
  exact (List.perm_append_singleton _ _).symm
 have hsub : ∀ y ∈ zs.map (·.1), y ∈ (zs.take p ++ ((pth t.mask h K).j, h, v) :: zs.drop p).map (·.1) := fun y hy => by
  obtain ⟨z, hz, e⟩ := List.mem_map.mp hy
  exact List.mem_map.mpr ⟨z, hperm.mem_iff.mpr (memL hz), e⟩
 have hmem : ∀ z ∈ zs.take p ++ ((pth t.mask h K).j, h, v) :: zs.drop p, z ∈ zs ∨ z = ((pth t.mask h K).j, h, v) := fun z hz => by
  rcases List.mem_append.mp (hperm.mem_iff.mp hz) with a | a
  ·exact .inl a
  ·exact .inr (List.mem_singleton.mp a)
 refine ⟨zs.take p ++ ((pth t.mask h K).j, h, v) :: zs.drop p, ⟨?_, ?_, hu3, ?_, ?_, ?_, ?_, ?_⟩, ?_⟩
 ·rw [hu2]
  show (SetTable.insertAt t.place (SetTable.below t.place _) _).toList = _
  rw [h1, SetTable.toList_insertAt, x.place, map_take_drop]
 ·show (SetTable.insertAt es (SetTable.below t.place _) _).toList = _
  rw [h1, SetTable.toList_insertAt, x.ents, map_take_drop]
 ·rw [List.pairwise_append, List.pairwise_cons]
  have hin : ∀ z ∈ zs.drop p, (pth t.mask h K).j < z.1 := fun z hz => by
   obtain ⟨i, hi, e⟩ := List.getElem_of_mem hz
   have hz2 : zs[p + i]? = some z := by rw [← List.getElem?_drop, List.getElem?_eq_getElem hi, e]
   have := h4 (p + i) z (by lia) hz2
   have hne : z.1 ≠ (pth t.mask h K).j := fun e => fr.1 (List.mem_map.mpr ⟨z, List.mem_of_getElem? hz2, e⟩)
   lia
  have hpre : ∀ z ∈ zs.take p, z.1 < (pth t.mask h K).j := fun z hz => by
   obtain ⟨i, hi, e⟩ := List.getElem_of_mem hz
   rw [List.length_take] at hi
   refine h3 i z (by lia) ?_
   rw [List.getElem_take] at e
   rw [List.getElem?_eq_getElem (by lia), e]
  refine (anI3 (x.rise.sublist (List.take_sublist _ _)) ⟨hin, x.rise.sublist (List.drop_sublist _ _)⟩ (fun a ha b hb => ?_))
  rcases List.mem_cons.mp hb with rfl | hb
  ·exact hpre a ha
  ·exact Nat.lt_trans (hpre a ha) (hin b hb)
 ·intro z hz
  rw [hu1]
  rcases hmem z hz with a | rfl
  ·exact x.le z a
  ·exact pth_le _ _ _
 ·rw [hu1]; exact x.covers
 ·rw [hu1, hperm.length_eq, List.length_append]; exact hf
 ·intro z hz
  rw [hu1]
  rcases hmem z hz with a | rfl
  ·exact (x.reach z a).mono hsub
  ·exact ⟨K, rfl, fun c hc => hsub _ (fr.2 c hc)⟩
 ·have := hperm.map (fun z : Nat × Int × Value => z.2)
  rw [List.map_append (l₁ := zs)] at this
  exact this
end
end
section
open PySem PySem.W PyProof.Rows
structure Owns (m : Nat) (hs : List Int) (os : List Nat) (ow : Array (Option Nat)) : Prop where
 size : ow.size = m + 1
 len : os.length = hs.length
 own : ∀ j, j ≤ m → ∀ k : Nat, ow.getD j none = some k ↔ os[k]? = some j
 le : ∀ j ∈ os, j ≤ m
 reach : ∀ (k : Nat) (h : Int) (j : Nat), hs[k]? = some h → os[k]? = some j → Reach m os h j
theorem Owns.isSome {m : Nat} {hs : List Int} {os : List Nat} {ow : Array (Option Nat)} (x : Owns m hs os ow) {j : Nat} (hj : j ≤ m) (h : (ow.getD j (some 0)).isNone = false) : j ∈ os := by
 have e : ow.getD j (some 0) = ow.getD j none := by
  simp only [Array.getD]
  rw [dif_pos (by rw [x.size]; lia), dif_pos (by rw [x.size]; lia)]
 rw [e] at h
 cases hk : ow.getD j none with
 | none => rw [hk] at h; cases h
 | some k => exact List.mem_of_getElem? ((x.own j hj k).mp hk)
theorem Owns.isNone {m : Nat} {hs : List Int} {os : List Nat} {ow : Array (Option Nat)} (x : Owns m hs os ow) {j : Nat} (hj : j ≤ m) (h : (ow.getD j (some 0)).isNone = true) : j ∉ os := by
 intro hm
 have e : ow.getD j (some 0) = ow.getD j none := by
  simp only [Array.getD]
  rw [dif_pos (by rw [x.size]; lia), dif_pos (by rw [x.size]; lia)]
 obtain ⟨k, hk, e2⟩ := List.getElem_of_mem hm
 have := (x.own j hj k).mpr (by rw [List.getElem?_eq_getElem hk, e2])
 rw [e, this] at h; cases h
theorem find_range {p : Nat → Bool} {n : Nat} : (∃ k, (List.range n).find? p = some k ∧ k < n ∧ p k = true ∧ ∀ c, c < k → p c = false) ∨ ((List.range n).find? p = none ∧ ∀ c, c < n → p c = false) := by
 cases h : (List.range n).find? p with
 | none => exact .inr ⟨rfl, fun c hc => by have := List.find?_eq_none.mp h c (List.mem_range.mpr hc); simpa using this⟩
 | some k =>
  refine .inl ⟨k, rfl, ?_⟩
  (refine anE2 (List.find?_eq_some_iff_append.mp h) fun h1 zr1 => exE2 zr1 fun as bs zr2 => anE2 zr2 fun h2 h3 => ?_; clear zr2 zr1)
  have hk : k = as.length := by
   have := congrArg (fun l : List Nat => l[as.length]?) h2
   simp only [List.getElem?_append_right (Nat.le_refl _), Nat.sub_self, List.getElem?_cons_zero] at this
   rw [List.getElem?_eq_some_iff] at this
   obtain ⟨_, e⟩ := this
   rw [List.getElem_range] at e
   exact e.symm
  have hmem : k ∈ List.range n := by rw [h2]; simp
  refine (anI3 (List.mem_range.mp hmem) h1 (fun c hc => ?_))
  have hc' : (List.range n)[c]? = some c := by rw [List.getElem?_range (by have := List.mem_range.mp hmem; lia)]
  rw [h2, List.getElem?_append_left (by lia)] at hc'
  have := h3 c (List.mem_of_getElem? hc')
  simpa using this
theorem free_spec {m : Nat} {hs : List Int} {os : List Nat} {ow : Array (Option Nat)} (x : Owns m hs os ow) (h : Int) : ∀ (fuel r k : Nat), runAt m h r k → (∀ c, c < k → (pth m h c).j ∈ os) → (∃ r', r ≤ r' ∧ r' < r + fuel ∧ (run0 m h r').1 ∉ os) →
  ∃ j, SetTable.layClean.free m ow fuel (run0 m h r).1 (run0 m h r).2 = some j ∧ j ≤ m ∧ j ∉ os ∧ Reach m os h j
 | 0, r, k, _, _, ⟨r', h1, h2, _⟩ => absurd h1 (by lia)
 | fuel + 1, r, k, hat, hall, ⟨r', h1, h2, h3⟩ => by
  unfold SetTable.layClean.free
  have hle := runEnd_m (run0_le m h r)
  have hge := runEnd_ge m (run0 m h r).1
  have got := find_range (p := fun k => (ow.getD ((run0 m h r).1 + k) (some 0)).isNone) (n := SetTable.runEnd m (run0 m h r).1 + 1 - (run0 m h r).1)
  rcases got with zc | ⟨e, hnone⟩
  ·(refine Exists.elim zc fun k' zr1 => anE4 zr1 fun e hk' hp hbefore => ?_; clear zc zr1)
   rw [e]
   dsimp only
   refine ⟨_, rfl, by lia, x.isNone (by lia) hp, k + k', ?_, fun c hc => ?_⟩
   ·rw [run_in hat k' (by lia)]
   ·rcases Nat.lt_or_ge c k with a | a
    ·exact hall c a
    ·obtain ⟨d, rfl⟩ : ∃ d, c = k + d := ⟨c - k, by lia⟩
     rw [run_in hat d (by lia)]
     exact x.isSome (by dsimp only; lia) (hbefore d (by lia))
  ·rw [e]
   dsimp only
   refine free_spec x h fuel (r + 1) _ (run_next hat) (fun c hc => ?_) ⟨r', (anI3 ?_ (by lia) h3)⟩
   ·rcases Nat.lt_or_ge c k with a | a
    ·exact hall c a
    ·obtain ⟨d, rfl⟩ : ∃ d, c = k + d := ⟨c - k, by lia⟩
     rw [run_in hat d (by lia)]
     exact x.isSome (by dsimp only; lia) (hnone d (by lia))
   ·rcases Nat.lt_or_ge r r' with a | a
    ·exact a
    ·have : r' = r := by lia
     subst this
     exact absurd (x.isSome (run0_le _ _ _) (by have := hnone 0 (by lia); rw [Nat.add_zero] at this; exact this)) h3
theorem clean_go {m : Nat} (cv : Covers m) : ∀ (rest hs : List Int) (os : List Nat) (ow : Array (Option Nat)), Owns m hs os ow → hs.length + rest.length ≤ m →
  ∃ os' ow', rest.foldl (fun acc h => do
   let (owner, k) ← acc
   let j ← SetTable.layClean.free m owner (SetTable.turns m) (SetTable.bits h % (m + 1)) (SetTable.bits h)
   pure (owner.setIfInBounds j (some k), k + 1)) (some (ow, hs.length)) = some (ow', (hs ++ rest).length) ∧ Owns m (hs ++ rest) os' ow'
 | [], hs, os, ow, x, hl => (exI2 os ow ⟨(by simp), (by simpa using x)⟩)
 | h :: rest, hs, os, ow, x, hl => by
  rw [List.length_cons] at hl
  have : ∃ e, e ≤ m ∧ e ∉ os := by
   apply Classical.byContradiction
   intro hn
   have := sub_len (List.range (m + 1)) os List.nodup_range fun y hy => by
    apply Classical.byContradiction
    intro hy'
    exact hn ⟨y, by have := List.mem_range.mp hy; lia, hy'⟩
   rw [List.length_range, x.len] at this; lia
  obtain ⟨e, he, hp⟩ := this
  obtain ⟨r, hr, er⟩ := cv h e he
  (refine Exists.elim (free_spec x h (SetTable.turns m) 0 0 rfl (fun c hc => absurd hc (Nat.not_lt_zero _)) ⟨r, (anI3 (Nat.zero_le _) (by lia) (by rw [er]; exact hp))⟩) fun j zr3 => anE4 zr3 fun hj hjm hjo hreach => ?_; clear zr3)
  have hj' : SetTable.layClean.free m ow (SetTable.turns m) (SetTable.bits h % (m + 1)) (SetTable.bits h) = some j := hj
  have nxt : Owns m (hs ++ [h]) (os ++ [j]) (ow.setIfInBounds j (some hs.length)) := by
   refine ⟨by rw [Array.size_setIfInBounds]; exact x.size, by simp [x.len], fun i hi k => ?_, fun i hi => ?_, fun k h' i e1 e2 => ?_⟩
   ·have gd : (ow.setIfInBounds j (some hs.length)).getD i none = if j = i then some hs.length else ow.getD i none := by
     simp only [Array.getD, Array.size_setIfInBounds]
     rw [dif_pos (by rw [x.size]; lia), dif_pos (by rw [x.size]; lia)]
     exact Array.getElem_setIfInBounds _
    rw [gd]
    by_cases hji : j = i
    ·subst hji
     rw [if_pos rfl]
     constructor
     ·intro e; cases e
      rw [← x.len, List.getElem?_append_right (Nat.le_refl _), Nat.sub_self]; rfl
     ·intro e
      rcases Nat.lt_trichotomy k os.length with a | a | a
      ·rw [List.getElem?_append_left a] at e
       exact absurd (List.mem_of_getElem? e) hjo
      ·rw [a, x.len]
      ·rw [List.getElem?_eq_none (by simp; lia)] at e; cases e
    ·rw [if_neg hji]
     rw [x.own i hi k]
     constructor
     ·intro e
      rw [List.getElem?_append_left (List.getElem?_eq_some_iff.mp e).1]; exact e
     ·intro e
      rcases Nat.lt_trichotomy k os.length with a | a | a
      ·rw [List.getElem?_append_left a] at e; exact e
      ·rw [a, List.getElem?_append_right (Nat.le_refl _), Nat.sub_self] at e
       cases e; exact absurd rfl hji
      ·rw [List.getElem?_eq_none (by simp; lia)] at e; cases e
   ·rcases List.mem_append.mp hi with a | a
    ·exact x.le i a
    ·rw [List.mem_singleton.mp a]; exact hjm
   ·refine Reach.mono (pl := os) ?_ fun y hy => memL hy
    rcases Nat.lt_trichotomy k os.length with a | a | a
    ·rw [List.getElem?_append_left (by rw [← x.len]; exact a)] at e1
     rw [List.getElem?_append_left a] at e2
     exact x.reach k h' i e1 e2
    ·rw [a, x.len, List.getElem?_append_right (Nat.le_refl _), Nat.sub_self] at e1
     rw [a, List.getElem?_append_right (Nat.le_refl _), Nat.sub_self] at e2
     cases e1; cases e2; exact hreach
    ·rw [List.getElem?_eq_none (by simp; lia)] at e2; cases e2
  (refine exE2 (clean_go cv rest (hs ++ [h]) _ _ nxt (by simp; lia)) fun os' ow' zr4 => anE2 zr4 fun e1 e2 => ?_; clear zr4)
  refine (exI2 os' ow' ⟨?_, (by simpa using e2)⟩)
  rw [List.foldl_cons]
  simp only [Option.bind_eq_bind, Option.bind_some, hj', Option.pure_def] at e1 ⊢
  rw [List.length_append, List.length_singleton] at e1
  rw [e1]
  simp
theorem layClean_ok {m : Nat} (cv : Covers m) (hashes : Array Int) (hl : hashes.size ≤ m) : ∃ os ow, SetTable.layClean m hashes = some ow ∧ Owns m hashes.toList os ow := by
 have x0 : Owns m [] [] (Array.replicate (m + 1) none) := by
  refine ⟨by simp, rfl, fun j hj k => ?_, fun j hj => absurd hj List.not_mem_nil, fun k h j e => by simp at e⟩
  simp [Array.getD]
 (refine exE2 (clean_go cv hashes.toList [] [] _ x0 (by simpa using hl)) fun os ow zr5 => anE2 zr5 fun e1 e2 => ?_; clear zr5)
 refine (exI2 os ow ⟨?_, (by simpa using e2)⟩)
 unfold SetTable.layClean
 rw [← Array.foldl_toList]
 rw [show (([] : List Int).length) = 0 from rfl] at e1
 rw [e1]; rfl
theorem filterMap_valid {α : Type} (l : List α) : ∀ (ks : List Nat), (∀ k ∈ ks, k < l.length) → ∀ d, ks.filterMap (fun k => l[k]?) = ks.map fun k => l.getD k d
 | [], _, _ => rfl
 | k :: ks, h, d => by
  have hk := h k mem0
  rw [List.filterMap_cons, List.getElem?_eq_getElem hk, List.map_cons]
  dsimp only
  rw [filterMap_valid l ks (fun k hk => h k (.tail _ hk)) d]
  congr 1
  simp [List.getD, hk]
theorem laid_ok {m finger moves : Nat} {led plain : Bool} (cv : Covers m) (es : Array (Int × Value)) (hl : es.size ≤ m) :
  ∃ t order zs, SetTable.laid m finger moves led plain (es.map (·.1)) = some (t, order) ∧ Tab t (order.filterMap (es[·]?)) zs ∧ (order.filterMap (es[·]?)).toList.Perm es.toList ∧ t.mask = m := by
 (refine exE2 (layClean_ok cv (es.map (·.1)) (by simpa using hl)) fun os ow zr6 => anE2 zr6 fun e x => ?_; clear zr6)
 have hlen : os.length = es.size := by rw [x.len]; simp
 let live := (List.range (m + 1)).filterMap fun j => (ow.getD j none).map (j, ·)
 have hmem : ∀ z ∈ live, z.1 ≤ m ∧ os[z.2]? = some z.1 := fun z hz => by
  obtain ⟨j, hj, ej⟩ := List.mem_filterMap.mp hz
  have hj' : j ≤ m := by have := List.mem_range.mp hj; lia
  cases hk : ow.getD j none with
  | none => rw [hk] at ej; cases ej
  | some k =>
   rw [hk] at ej; cases ej
   exact ⟨hj', (x.own j hj' k).mp hk⟩
 have hall : ∀ k j, os[k]? = some j → (j, k) ∈ live := fun k j h => by
  have hj := x.le j (List.mem_of_getElem? h)
  refine List.mem_filterMap.mpr ⟨j, List.mem_range.mpr (by lia), ?_⟩
  rw [(x.own j hj k).mpr h]; rfl
 have hrise : live.Pairwise (fun a b => a.1 < b.1) := by
  refine List.Pairwise.filterMap _ (fun a a' haa b hb b' hb' => ?_) List.pairwise_lt_range
  cases hk : ow.getD a none with
  | none => rw [hk] at hb; cases hb
  | some k =>
   cases hk' : ow.getD a' none with
   | none => rw [hk'] at hb'; cases hb'
   | some k' =>
    rw [hk] at hb; rw [hk'] at hb'
    cases hb; cases hb'
    exact haa
 have hlt : ∀ k ∈ live.map (·.2), k < es.toList.length := fun k hk => by
  obtain ⟨z, hz, rfl⟩ := List.mem_map.mp hk
  have := (List.getElem?_eq_some_iff.mp (hmem z hz).2).1
  rw [hlen] at this; simpa using this
 have hnd : (live.map (·.2)).Nodup := by
  rw [List.Nodup, List.pairwise_map]
  refine hrise.imp_of_mem fun {a b} ha hb hab e => ?_
  have h1 := (hmem a ha).2
  have h2 := (hmem b hb).2
  rw [e, h2] at h1
  have := Option.some.inj h1
  lia
 have hperm : (live.map (·.2)).Perm (List.range es.toList.length) := by
  rw [List.perm_ext_iff_of_nodup hnd List.nodup_range]
  intro k
  rw [List.mem_range]
  refine ⟨hlt k, fun hk => ?_⟩
  have hk' : k < os.length := by rw [hlen]; simpa using hk
  exact List.mem_map.mpr ⟨_, hall k (os[k]) (List.getElem?_eq_getElem hk'), rfl⟩
 have hes : ((live.map (·.2)).toArray.filterMap (es[·]?)).toList = (live.map (·.2)).filterMap (fun k => es.toList[k]?) := by
  rw [Array.toList_filterMap]
  simp
 have hzs := filterMap_valid es.toList (live.map (·.2)) hlt (0, Value.none)
 have hp2 : ((live.map (·.2)).filterMap (fun k => es.toList[k]?)).Perm es.toList := by
  have := hperm.filterMap (fun k => es.toList[k]?)
  rw [List.filterMap_getElem?_range_length] at this
  exact this
 refine (exI3 ({ mask := m, place := (live.map (·.1)).toArray, dummies := #[], finger, led, moves, plain }) ((live.map (·.2)).toArray) (live.map (fun z => (z.1, es.toList.getD z.2 (0, .none)))) (anI4 ?_ ⟨?_, ?_, rfl, ?_, ?_, cv, ?_, ?_⟩ ?_ rfl))
 ·unfold SetTable.laid
  rw [e]
  rfl
 ·simp [Function.comp_def]
 ·rw [hes, hzs]; simp [Function.comp_def]
 ·rw [List.pairwise_map]; exact hrise
 ·intro z hz
  obtain ⟨y, hy, rfl⟩ := List.mem_map.mp hz
  exact (hmem y hy).1
 ·have := hperm.length_eq
  rw [List.length_map, List.length_range] at this
  rw [List.length_map, this]; simpa using hl
 ·intro z hz
  obtain ⟨y, hy, rfl⟩ := List.mem_map.mp hz
  have h1 := (hmem y hy).2
  have hk := hlt y.2 (List.mem_map.mpr ⟨y, hy, rfl⟩)
  have hr := x.reach y.2 (es.toList.getD y.2 (0, .none)).1 y.1 (by
   simp only [Array.toList_map, List.getElem?_map, List.getElem?_eq_getElem hk, Option.map_some, List.getD, Option.getD_some]) h1
  refine hr.mono fun j hj => ?_
  obtain ⟨k, hk, ek⟩ := List.getElem_of_mem hj
  rw [List.map_map]
  exact List.mem_map.mpr ⟨_, hall k j (by rw [List.getElem?_eq_getElem hk, ek]), rfl⟩
 ·rw [hes]; exact hp2
end
section
open PySem PySem.W PyProof.Rows
noncomputable abbrev TK (w : World) : VK w (List Str) := VK.list (VK.of (SK w))
inductive Keyed (w : World) (h : Heap) : List (Int × Value) → List (List Str) → Prop
 | nil : Keyed w h [] []
 | cons {k : List Str} {a : Addr} {es ks} : (TK w).is h k (.ref a) → Keyed w h es ks → Keyed w h (((TK w).hash k, .ref a) :: es) (k :: ks)
noncomputable def Tups (w : World) (g : Heap) (es : Array (Int × Value)) (t : SetTable) (l : List (List Str)) : Prop := ∃ zs ks, Tab t es zs ∧ Keyed w g (zs.map (·.2)) ks ∧ ks.Perm l ∧ l.Nodup ∧
 (t.mask = 7 ∨ t.mask = 31 ∨ t.mask = 127) ∧ l.length * 5 < t.mask * 3
noncomputable def addL (l : List (List Str)) (x : List Str) : List (List Str) := if x ∈ l then l else l ++ [x]
section
variable {w : World} {h h' : Heap}
theorem Keyed.perm {es es' : List (Int × Value)} (p : es'.Perm es) : ∀ {ks}, Keyed w h es ks → ∃ ks', Keyed w h es' ks' ∧ ks'.Perm ks := by
 induction p with
 | nil => exact fun x => ⟨_, x, List.Perm.refl _⟩
 | cons x _ ih =>
  intro ks x
  cases x with
  | cons a hr =>
   obtain ⟨s', h1, h2⟩ := ih hr
   exact ⟨_, .cons a h1, h2.cons _⟩
 | swap x y l =>
  intro ks x
  cases x with
  | cons a hr => cases hr with
   | cons b hr => exact ⟨_, .cons b (.cons a hr), List.Perm.swap _ _ _⟩
 | trans _ _ ih1 ih2 =>
  intro ks x
  obtain ⟨s1, a1, b1⟩ := ih2 x
  obtain ⟨s2, a2, b2⟩ := ih1 a1
  exact ⟨s2, a2, b2.trans b1⟩
theorem Keyed.snoc {es : List (Int × Value)} {ks : List (List Str)} (x : Keyed w h es ks) {k : List Str} {a : Addr} (hk : (TK w).is h k (.ref a)) : Keyed w h (es ++ [((TK w).hash k, .ref a)]) (ks ++ [k]) := by
 induction x with
 | nil => exact .cons hk .nil
 | cons a _ ih => exact .cons a ih
theorem Keyed.keeps {es : List (Int × Value)} {ks : List (List Str)} (x : Keyed w h es ks) (k : ∀ b o items n, o.data = .seq items n → h.get? b = some o → h'.get? b = some o) : Keyed w h' es ks := by
 induction x with
 | nil => exact .nil
 | cons a _ ih => exact .cons ((TK w).keeps k a) ih
theorem Keyed.at {es : List (Int × Value)} {ks : List (List Str)} (x : Keyed w h es ks) : ∀ e ∈ es, ∃ k a, k ∈ ks ∧ (TK w).is h k (.ref a) ∧ e = ((TK w).hash k, .ref a) := by
 induction x with
 | nil => exact fun _ m => absurd m List.not_mem_nil
 | @cons k a _ _ h1 _ ih =>
  intro e m
  rcases List.mem_cons.mp m with rfl | m
  ·exact (exI2 k a (anI3 mem0 h1 rfl))
  ·(refine exE2 (ih e m) fun k' a' zr1 => anE2 zr1 fun r1 r2 => ?_; clear zr1)
   exact (exI2 k' a' ⟨(.tail _ r1), r2⟩)
theorem Keyed.has {es : List (Int × Value)} {ks : List (List Str)} (x : Keyed w h es ks) : ∀ k ∈ ks, ∃ a, (TK w).is h k (.ref a) ∧ ((TK w).hash k, Value.ref a) ∈ es := by
 induction x with
 | nil => exact fun _ m => absurd m List.not_mem_nil
 | @cons k a _ _ h1 _ ih =>
  intro k' m
  rcases List.mem_cons.mp m with rfl | m
  ·exact ⟨a, h1, mem0⟩
  ·obtain ⟨a', r1, r2⟩ := ih k' m
   exact ⟨a', r1, List.mem_cons_of_mem _ r2⟩
theorem Keyed.length {es : List (Int × Value)} {ks : List (List Str)} (x : Keyed w h es ks) : es.length = ks.length := by
 induction x with
 | nil => rfl
 | cons _ _ ih => simp [ih]
end
section
variable {w : World} {A : Around} {E : Value → Shared → Prop} {s : Shared}
theorem SK_str {k : Str} {v : Value} (h : (VK.of (SK w)).is s.heap k v) : ∃ t, v = .str k t := Value.isStrOf_shape (show Value.isStrOf k v = true from h)
theorem AllIs.strs {h : Heap} {k : List Str} {vs : List Value} (a : AllIs (VK.of (SK w)) h k vs) : ∀ v ∈ vs, ∃ x t, v = .str x t := by
 intro v hv
 obtain ⟨x, hx⟩ := a.mem v hv
 obtain ⟨t, e⟩ := Value.isStrOf_shape (show Value.isStrOf x v = true from hx)
 exact (exI2 x t e)
theorem ofStr_no (n : Nat) (x : Str) (t : Tok) : ofAClassStatement n (.str x t) = pure false := by unfold ofAClassStatement; rfl
theorem notClass {k : List Str} {v : Value} {n : Nat} {Q : Bool → Shared → Prop} (hk : (TK w).is s.heap k v) (h : Q false s) : wpAny (model P w) A (ofAClassStatement (n + 1) v) Q E s := by
 obtain ⟨vs, ⟨a, o, ep, rfl, ho, hc, hd⟩, hall⟩ := hk
 have hT : s.TypeIs (.ref a) "tuple" := ⟨o, ho, hc⟩
 unfold ofAClassStatement
 refine wpAny_bind (wpAny_typeOf hT ?_)
 dsimp only
 refine wpAny_bind ?_
 refine wpAny_pure ?_
 rw [if_neg (show ¬ ((!true) = true) from Bool.false_ne_true)]
 refine wpAny_bind (wpAny_seqItems ho hd ?_)
 dsimp only
 refine wpAny_bind ?_
 rw [← Array.forIn_toList]
 refine wpAny_forIn_list _ (fun rest r s' => r.1 = none ∧ s' = s ∧ ∀ v ∈ rest, v ∈ vs) _ ?_ ?_ _ _ (anI3 rfl rfl (fun _ m => by simpa using m))
 ·rintro v rest r s' ⟨hr, rfl, hm⟩
  (refine exE2 (hall.strs v (hm v mem0)) fun x t ze2 => ?_; subst ze2)
  rw [ofStr_no]
  refine wpAny_bind (wpAny_pure ?_)
  rw [if_neg Bool.false_ne_true]
  exact wpAny_pure ⟨rfl, rfl, fun u hu => hm u (.tail _ hu)⟩
 ·rintro ⟨r1, r2⟩ s' zI
  (refine anE3 zI fun hr ze3 _ => ?_; clear zI; subst ze3)
  simp only at hr
  subst hr
  exact wpAny_pure h
theorem notSeen {k : List Str} {a : Addr} {ys : List Value} {Q : Bool → Shared → Prop} (hk : (TK w).is s.heap k (.ref a)) (hy : ∀ y ∈ ys, ∃ k', (TK w).is s.heap k' y) (h : Q false s) : wpAny (model P w) A (searchCouldBeSeen (.ref a) ys) Q E s := by
 unfold searchCouldBeSeen
 refine wpAny_bind ?_
 refine wpAny_forIn_list _ (fun rest r s' => r.1 = none ∧ s' = s ∧ ∀ v ∈ rest, v ∈ ys) _ ?_ ?_ _ _ (anI3 rfl rfl (fun _ m => m))
 ·rintro y rest r s' ⟨hr, rfl, hm⟩
  obtain ⟨k', hk'⟩ := hy y (hm y mem0)
  obtain ⟨a', rfl⟩ : ∃ a', y = .ref a' := by
   obtain ⟨_, ⟨a', _, _, e, _⟩, _⟩ := hk'
   exact ⟨a', e⟩
  dsimp only
  split
  ·exact wpAny_pure ⟨rfl, rfl, fun u hu => hm u (.tail _ hu)⟩
  ·refine wpAny_bind ((TK w).quiet (show 0 + 1 ≤ 8 by decide) hk ?_)
   rw [if_neg (show ¬ ((!true) = true) from Bool.false_ne_true)]
   refine wpAny_bind ((TK w).quiet (show 0 + 1 ≤ 8 by decide) hk' ?_)
   rw [if_neg (show ¬ ((!true) = true) from Bool.false_ne_true)]
   refine wpAny_bind (notClass hk ?_)
   rw [if_neg Bool.false_ne_true]
   refine wpAny_bind (notClass hk' ?_)
   rw [if_neg Bool.false_ne_true]
   exact wpAny_pure ⟨rfl, rfl, fun u hu => hm u (.tail _ hu)⟩
 ·rintro ⟨r1, r2⟩ s' zI
  (refine anE3 zI fun hr ze4 _ => ?_; clear zI; subst ze4)
  simp only at hr
  subst hr
  exact wpAny_pure h
theorem byVal {k : List Str} {v : Value} {n : Nat} {Q : Bool → Shared → Prop} (hk : (TK w).is s.heap k v) (h : ∀ b, Q b s) : wpAny (model P w) A (hashByValue (n + 1) v) Q E s := by
 obtain ⟨vs, ⟨a, o, ep, rfl, ho, hc, hd⟩, hall⟩ := hk
 have hT : s.TypeIs (.ref a) "tuple" := ⟨o, ho, hc⟩
 unfold hashByValue
 refine wpAny_bind (wpAny_specialOf hT PySem.F.slot_tuple_hash.lookup ?_)
 dsimp only
 refine wpAny_bind (wpAny_seqItems ho hd ?_)
 refine wpAny_bind ?_
 show wpAny _ _ (forIn vs.toArray _ _) _ _ s
 rw [← Array.forIn_toList]
 refine wpAny_forIn_list _ (fun rest r s' => r.1 = none ∧ s' = s ∧ ∀ v ∈ rest, v ∈ vs) _ ?_ ?_ _ _ (anI3 rfl rfl (fun _ m => by simpa using m))
 ·rintro v rest r s' ⟨hr, rfl, hm⟩
  (refine exE2 (hall.strs v (hm v mem0)) fun x t ze5 => ?_; subst ze5)
  have : hashByValue n (.str x t) = pure false := by cases n <;> rfl
  rw [this]
  refine wpAny_bind (wpAny_pure ?_)
  rw [if_pos (show (!false) = true from rfl)]
  exact wpAny_pure (wpAny_pure (h _))
 ·rintro ⟨r1, r2⟩ s' zI
  (refine anE3 zI fun hr ze6 _ => ?_; clear zI; subst ze6)
  simp only at hr
  subst hr
  exact wpAny_pure (h _)
end
end
section
open PySem PySem.W PyProof.Rows
section
variable {w : World} {A : Around} {E : Value → Shared → Prop} {s : Shared}
theorem twice {α β : Type} {M : Model} {Q : α → Shared → Prop} {c : Prop} [Decidable c] {m : Sem Bool} {x : Sem β} {y : Sem α} (hm : wpAny M A m (fun b s' => b = false ∧ s' = s) E s) (h : wpAny M A y Q E s) :
  wpAny M A (if c then m >>= fun b => if b = true then x >>= fun _ => y else y else y) Q E s := by
 by_cases hc : c
 ·rw [if_pos hc]
  refine wpAny_bind (wpAny_mono hm (fun b s' z => ?_) fun _ _ z => z)
  rw [z.1, z.2, if_neg Bool.false_ne_true]; exact h
 ·rw [if_neg hc]; exact h
theorem search_tup {a b : Addr} {o : Obj} {es : Array (Int × Value)} {ep : Nat} {t : SetTable} {zs : Zs} {ks : List (List Str)} {k : List Str} {K : Nat} {Q : SetFound → Shared → Prop} (hu : A.units + (TK w).need < cLine) (hg : t.gaveWay = false) (ho : s.heap.get? a = some o) (hd : o.data = .set es ep t)
  (T : Tab t es zs) (hK : Keyed w s.heap (zs.map (·.2)) ks) (hk : (TK w).is s.heap k (.ref b)) (fr : Free t.mask (zs.map (·.1)) ((TK w).hash k) K) (hKm : K < 10 * SetTable.turns t.mask)
  (h1 : k ∈ ks → Q (.there none) s) (h2 : k ∉ ks → Q (.free (pth t.mask ((TK w).hash k) K).j false) s) : ∀ (fuel c : Nat) (st : Option SetTable.Probe), c ≤ K → K - c < fuel → st.getD (t.probeStart ((TK w).hash k)) = pth t.mask ((TK w).hash k) c →
   (∀ k', k' < c → ∀ z ∈ zs, z.1 = (pth t.mask ((TK w).hash k) k').j → ¬ (TK w).is s.heap k z.2.2) →
   wpAny (model P w) A (setSearchFrom a (.ref b) ((TK w).hash k) true fuel st) Q E s
 | 0, c, st, hc, hf, _, _ => absurd hf (Nat.not_lt_zero _)
 | fuel + 1, c, st, hc, hf, hst, hno => by
  have hkey : ∀ z ∈ zs, ∃ k' a', k' ∈ ks ∧ (TK w).is s.heap k' (.ref a') ∧ z.2 = ((TK w).hash k', .ref a') := fun z hz => hK.at z.2 (List.mem_map.mpr ⟨z, hz, rfl⟩)
  refine wpAny_bind (wpAny_setState_of ho hd T.fits ?_)
  dsimp only
  rw [hg, hst]
  rw [if_neg Bool.false_ne_true]
  have got := T.probe_go fr (fun i => (es[i]?.map (·.1)).getD 0) (fun i z hz => by rw [T.entAt hz]; rfl) (10 * SetTable.turns t.mask) c hc (by lia)
  generalize hpr : t.probe _ ((TK w).hash k) (pth t.mask ((TK w).hash k) c) = pr
  rcases got with ⟨e, hrest⟩ | zc
  ·have e' : pr = some (.empty (pth t.mask ((TK w).hash k) K).j none) := by rw [← hpr]; exact e
   subst e'
   dsimp only
   refine wpAny_pure (h2 fun hin => ?_)
   obtain ⟨a', ha', hm⟩ := hK.has k hin
   obtain ⟨z, hz, ez⟩ := List.mem_map.mp hm
   obtain ⟨n, hn1, hn2⟩ := T.reach z hz
   have ez1 : z.2.1 = (TK w).hash k := by rw [ez]
   have ez2 : z.2.2 = .ref a' := by rw [ez]
   rw [ez1] at hn1 hn2
   have hnK : n < K := by
    rcases Nat.lt_trichotomy n K with x | x | x
    ·exact x
    ·subst x; exact absurd (List.mem_map.mpr ⟨z, hz, hn1.symm⟩) fr.1
    ·exact absurd (hn2 K x) fr.1
   rcases Nat.lt_or_ge n c with x | x
   ·exact hno n x z hz hn1.symm (by rw [ez2]; exact ha')
   ·exact hrest n x hnK z hz hn1.symm ez1
  ·(refine exE3 zc fun k' i z zr1 => anE7 zr1 fun hck hkK hzi hzj hzh e hbetween => ?_; clear zc zr1)
   have hzm : z ∈ zs := List.mem_of_getElem? hzi
   (refine exE2 (hkey z hzm) fun k1 a1 zr1 => anE3 zr1 fun hk1 hk1' ez => ?_; clear zr1)
   have e' : pr = some (.candidate z.1 i (pth t.mask ((TK w).hash k) (k' + 1))) := by rw [← hpr]; exact e
   subst e'
   dsimp only
   have hent : es[i]? = some (z.2.1, .ref a1) := by rw [T.entAt hzi, ez]
   refine twice (notSeen hk (fun y hy => ?_) ⟨rfl, rfl⟩) ?_
   ·obtain ⟨e, he, rfl⟩ := List.mem_map.mp hy
    have he2 : e ∈ es.toList := (Array.mem_toList_iff.mpr (Array.mem_filter.mp (Array.mem_toList_iff.mp he)).1)
    rw [T.ents] at he2
    obtain ⟨z', hz', rfl⟩ := List.mem_map.mp he2
    (refine exE2 (hkey z' hz') fun k2 a2 zr3 => anE3 zr3 fun hk2 hk2' ez2 => ?_; clear zr3)
    exact ⟨k2, by rw [ez2]; exact hk2'⟩
   rw [hent]
   dsimp only
   refine wpAny_bind (wpAny_holding ((TK w).eqBool hu hk1' hk ?_))
   refine wpAny_bind (wpAny_setState_of ho hd T.fits ?_)
   dsimp only
   by_cases hkk : k1 = k
   ·simp only [hkk, decide_true, Bool.and_self, if_true]
    exact wpAny_pure (h1 (hkk ▸ hk1))
   ·have hsm : t.sameMemory t.moves t.mask = some true := by unfold SetTable.sameMemory; simp
    simp only [hkk, decide_false, Bool.and_false, Bool.false_eq_true, if_false, hsm, if_true, T.live hzi, hent]
    refine wpAny_bind (wpAny_isSame_ref_self (wpAny_bind (wpAny_pure ?_)))
    rw [if_pos rfl]
    refine search_tup hu hg ho hd T hK hk fr hKm h1 h2 fuel (k' + 1) _ (by lia) (by lia) rfl fun q hq z' hz' hj' his => ?_
    (refine exE2 (hkey z' hz') fun k2 a2 zr2 => anE3 zr2 fun hk2 hk2' ez2 => ?_; clear zr2)
    have : k2 = k := (TK w).inj (by rw [ez2] at his ⊢; exact hk2') his
    have hh : z'.2.1 = (TK w).hash k := by rw [ez2, this]
    rcases Nat.lt_or_ge q c with x | x
    ·exact hno q x z' hz' hj' his
    ·rcases Nat.lt_or_ge q k' with y | y
     ·exact hbetween q x y z' hz' hj' hh
     ·have : q = k' := by lia
      subst this
      obtain ⟨i2, hi2, ei2⟩ := List.getElem_of_mem hz'
      have l1 := T.live hzi
      have l2 := T.live (show zs[i2]? = some z' by rw [List.getElem?_eq_getElem hi2, ei2])
      rw [hj', ← hzj, l1] at l2
      injection l2 with l2
      subst l2
      rw [List.getElem?_eq_getElem hi2, ei2] at hzi
      cases hzi
      rw [ez2] at ez
      injection ez with _ ez
      rw [ez2] at his
      rw [ez] at his
      exact hkk ((TK w).inj hk1' his)
theorem slot_put (t : SetTable) (j : Nat) : (t.put j).1.mask = t.mask ∧ (t.put j).1.dummies = (if SetTable.has t.dummies j then SetTable.eraseAt t.dummies (SetTable.below t.dummies j) else t.dummies) := ⟨rfl, rfl⟩
theorem put_dum {t : SetTable} (h : t.dummies = #[]) (j : Nat) : (t.put j).1.dummies = #[] := by
 rw [(slot_put t j).2, h]; rfl
theorem relay_tup {a : Addr} {o : Obj} {es : Array (Int × Value)} {ep : Nat} {t : SetTable} {zs : Zs} {wanted m : Nat} {Q : Unit → Shared → Prop} (ho : s.heap.get? a = some o) (hd : o.data = .set es ep t) (T : Tab t es zs)
  (hm : SetTable.sizeAbove wanted - 1 = m) (cv : Covers m) (hl : es.size ≤ m) (hm2 : SetTable.sizeAbove wanted ≤ 1000)
  (H : ∀ es' t' zs', Tab t' es' zs' → es'.toList.Perm es.toList → t'.mask = m → Q () { s with heap := s.heap.update a (Obj.putSet es' t') }) :
  wpAny (model P w) A (setRelay a wanted) Q E s := by
 (refine exE3 (laid_ok (finger := t.finger) (moves := t.movedTo m) (led := t.led) (plain := t.plain) cv es hl) fun t' order zs' zr4 => anE4 zr4 fun e T' hp em => ?_; clear zr4)
 have hr : t.relaid (es.map (·.1)) wanted = some (t', order) := by
  unfold SetTable.relaid
  rw [hm]; exact e
 have hsz : (order.filterMap (es[·]?)).size = es.size := by rw [← Array.length_toList, hp.length_eq, Array.length_toList]
 unfold setRelay
 refine wpAny_bind (wpAny_setState_of ho hd T.fits ?_)
 dsimp only
 rw [if_neg (by rw [sizeLine_eq]; lia), hr]
 refine wpAny_bind ?_
 show wpAny _ _ (if ((order.filterMap (es[·]?)).size != es.size) = true then _ else pure (order.filterMap (es[·]?), t')) _ _ _
 rw [if_neg (by rw [hsz]; simp)]
 refine wpAny_pure ?_
 refine wpAny_storeSet_of ho hd (H _ _ _ T' hp em) ?_
 rw [hsz, sizeLine_eq]
 lia
end
end
section
open PySem PySem.W PyProof.Rows
section
variable {w : World} {A : Around} {E : Value → Shared → Prop} {s : Shared}
theorem addL_len (l : List (List Str)) (x : List Str) : (addL l x).length ≤ l.length + 1 := by
 unfold addL; split <;> simp
theorem addL_nodup {l : List (List Str)} (h : l.Nodup) (x : List Str) : (addL l x).Nodup := by
 unfold addL
 split
 ·exact h
 ·rename_i hx
  rw [List.nodup_append]
  exact (anI3 h (by simp) (fun a ha b hb z => hx (by rw [List.mem_singleton.mp hb] at z; exact z ▸ ha)))
theorem Tups.keep {g g' : Heap} {es : Array (Int × Value)} {t : SetTable} {l : List (List Str)} (x : Tups w g es t l) (k : Keep g g') : Tups w g' es t l :=
 by obtain ⟨zs, ks, T, hK, r⟩ := x; exact ⟨zs, ks, T, hK.keeps (fun b o _ _ _ e => k b o e), r⟩
theorem addTup {g : Heap} {a b : Addr} {es : Array (Int × Value)} {ep : Nat} {t : SetTable} {l : List (List Str)} {k : List Str} {Q : Bool → Shared → Prop} (gh : Keep g s.heap) (hu : A.units + (TK w).need < cLine) (hS : SetHas s.heap a es ep t) (hT : Tups w g es t l)
  (hkg : (TK w).is g k (.ref b)) (hroom : l.length ≤ 70)
  (H : ∀ r h' es' ep' t', Heap.SameBut a s.heap h' → SetHas h' a es' ep' t' → Tups w g es' t' (addL l k) → Q r { s with heap := h' }) :
  wpAny (model P w) A (setAddHashed a (.ref b) ((TK w).hash k)) Q E s := by
 obtain ⟨o, ho, hex, hd, hfits⟩ := id hS
 obtain ⟨zs, ks, T, hKg, hp, hnd, hmask, hfill⟩ := id hT
 have hK : Keyed w s.heap (zs.map (·.2)) ks := hKg.keeps fun b o _ _ _ e => gh b o e
 have hk : (TK w).is s.heap k (.ref b) := (TK w).keeps (fun b o _ _ _ e => gh b o e) hkg
 have hzl : zs.length = l.length := by rw [← hp.length_eq, ← hK.length, List.length_map]
 have hcount : zs.length * 5 < t.mask * 3 := by rw [hzl]; exact hfill
 have hg : t.gaveWay = false := by
  unfold SetTable.gaveWay
  rcases hmask with e | e | e <;> rw [e] <;> rfl
 obtain ⟨K, hK1, fr⟩ := exists_free (pl := zs.map (·.1)) T.covers (by rw [List.length_map]; exact T.fill) ((TK w).hash k)
 have hKm : K ≤ 10 * (127 + 15) := by
  unfold SetTable.turns at hK1
  rcases hmask with e | e | e <;> rw [e] at hK1 <;> lia
 unfold setAddHashed setAddHashedIn
 refine wpAny_holding (wpAny_bind (wpAny_setState_of ho hd T.fits ?_))
 dsimp only
 rw [show byScan (.ref b) es = false from rfl]
 rw [if_neg Bool.false_ne_true]
 refine wpAny_bind ?_
 unfold setSearch
 refine search_tup hu hg ho hd T hK hk fr hK1 (fun hin => ?_) (fun hnin => ?_) 100000 0 none (Nat.zero_le _) (by lia) rfl (fun k' hk' => absurd hk' (Nat.not_lt_zero _))
 ·refine wpAny_pure ?_
  have e : s = { s with heap := s.heap } := by cases s; rfl
  rw [e]
  refine H _ _ es ep t (Heap.SameBut.refl _ _) hS ?_
  unfold addL
  rw [if_pos (hp.mem_iff.mp hin)]
  exact hT
 ·dsimp only
  have hadd : addL l k = l ++ [k] := by unfold addL; rw [if_neg fun z => hnin (hp.mem_iff.mpr z)]
  have hnd' : (l ++ [k]).Nodup := hadd ▸ addL_nodup hnd k
  refine wpAny_bind (wpAny_setState_of ho hd T.fits ?_)
  dsimp only
  have tail : ∀ (u : SetTable), u.mask = t.mask → u.place = (t.put (pth t.mask ((TK w).hash k) K).j).1.place → u.dummies = #[] →
    wpAny (model P w) A (do
     storeSet a (SetTable.insertAt es (t.put (pth t.mask ((TK w).hash k) K).j).2 ((TK w).hash k, .ref b)) u
     if (!false && u.tooFull) = true then do
       setRelay a (SetTable.grown (es.size + 1))
       pure true
      else pure true) Q E s := by
   intro u hu1 hu2 hu3
   obtain ⟨zs1, T1, hp1⟩ := T.put fr (.ref b) (by rcases hmask with e | e | e <;> rw [e] at hcount ⊢ <;> lia) u hu1 hu2 hu3
   have hsz1 : (SetTable.insertAt es (t.put (pth t.mask ((TK w).hash k) K).j).2 ((TK w).hash k, .ref b)).size = zs.length + 1 := by
    rw [T1.esize, ← List.length_map (f := fun z : Nat × Int × Value => z.2), hp1.length_eq, List.length_append, List.length_map, List.length_singleton]
   obtain ⟨ks1, hK1', hpk1⟩ := Keyed.perm hp1 (hKg.snoc hkg)
   have hpk : ks1.Perm (l ++ [k]) := hpk1.trans (hp.append_right _)
   refine wpAny_bind (wpAny_storeSet_of ho hd ?_ (by rw [hsz1, sizeLine_eq]; lia))
   have hsb := Heap.SameBut.update s.heap a (Obj.putSet (SetTable.insertAt es (t.put (pth t.mask ((TK w).hash k) K).j).2 ((TK w).hash k, .ref b)) u)
   have hgt : (s.heap.update a (Obj.putSet (SetTable.insertAt es (t.put (pth t.mask ((TK w).hash k) K).j).2 ((TK w).hash k, .ref b)) u)).get? a = some { o with data := .set (SetTable.insertAt es (t.put (pth t.mask ((TK w).hash k) K).j).2 ((TK w).hash k, .ref b)) (ep + 1) u } := by
    have := Heap.get?_update_self (Obj.putSet (SetTable.insertAt es (t.put (pth t.mask ((TK w).hash k) K).j).2 ((TK w).hash k, .ref b)) u) ho (by rw [putSet_of _ _ hd]; rfl)
    rw [putSet_of _ _ hd] at this; exact this
   rw [hadd] at H
   generalize hh1 : s.heap.update a (Obj.putSet (SetTable.insertAt es (t.put (pth t.mask ((TK w).hash k) K).j).2 ((TK w).hash k, .ref b)) u) = h1 at hsb hgt ⊢
   by_cases hfull : u.tooFull = true
   ·rw [if_pos (show (!false && u.tooFull) = true from hfull)]
    have hfull' : (zs.length + 1) * 5 ≥ t.mask * 3 := by
     unfold SetTable.tooFull SetTable.fill at hfull
     rw [T1.size, hu3, ← List.length_map (f := fun z : Nat × Int × Value => z.2), hp1.length_eq, hu1] at hfull
     simpa using hfull
    have choice : ∃ m, SetTable.sizeAbove (SetTable.grown (es.size + 1)) - 1 = m ∧ Covers m ∧ zs.length + 1 ≤ m ∧ SetTable.sizeAbove (SetTable.grown (es.size + 1)) ≤ 1000 ∧ (m = 7 ∨ m = 31 ∨ m = 127) ∧ (l.length + 1) * 5 < m * 3 := by
     rw [T.esize]
     rcases hmask with e | e | e
     ·rw [e] at hfull' hcount
      have : zs.length = 4 := by lia
      rw [this]
      exact ⟨31, (anI6 (by decide) covers31 (by decide) (by decide) (.inr (.inl rfl)) (by lia))⟩
     ·rw [e] at hfull' hcount
      have : zs.length = 18 := by lia
      rw [this]
      exact ⟨127, (anI6 (by decide) covers127 (by decide) (by decide) (.inr (.inr rfl)) (by lia))⟩
     ·rw [e] at hfull'
      lia
    (refine Exists.elim choice fun m zr1 => anE6 zr1 fun hm cv hlm hm2 hmm hmf => ?_; clear choice zr1)
    refine wpAny_bind (relay_tup (s := { s with heap := h1 }) hgt rfl T1 hm cv (by rw [hsz1]; exact hlm) hm2 fun es2 t2 zs2 T2 hp2 em => ?_)
    have hsb2 := hsb.trans (Heap.SameBut.update h1 a (Obj.putSet es2 t2))
    have hgt2 := Heap.get?_update_self (Obj.putSet es2 t2) hgt (by rw [putSet_of _ _ rfl]; rfl)
    rw [putSet_of _ _ rfl] at hgt2
    obtain ⟨ks2, hK2, hpk2⟩ := Keyed.perm (T2.ents ▸ hp2) (T1.ents ▸ hK1')
    exact wpAny_pure (H _ _ es2 _ t2 hsb2 ⟨_, hgt2, hex, rfl, T2.fits⟩ ⟨zs2, ks2, T2, hK2, hpk2.trans hpk, hnd', by rw [em]; exact hmm, by rw [em, List.length_append]; exact hmf⟩)
   ·rw [if_neg (show ¬ ((!false && u.tooFull) = true) from hfull)]
    refine wpAny_pure (H _ h1 _ _ u hsb ⟨_, hgt, hex, rfl, T1.fits⟩ ⟨zs1, ks1, T1, hK1', hpk, hnd', by rw [hu1]; exact hmask, ?_⟩)
    have : ¬ (zs.length + 1) * 5 ≥ t.mask * 3 := by
     unfold SetTable.tooFull SetTable.fill at hfull
     rw [T1.size, hu3, ← List.length_map (f := fun z : Nat × Int × Value => z.2), hp1.length_eq, hu1] at hfull
     simpa using hfull
    rw [hu1, List.length_append, List.length_singleton, ← hzl]
    lia
  split
  ·refine wpAny_bind (byVal hk fun bv => ?_)
   cases bv with
   | true => exact tail _ rfl rfl (put_dum T.dum _)
   | false => exact tail { (t.put (pth t.mask ((TK w).hash k) K).j).1 with plain := false } rfl rfl (put_dum T.dum _)
  ·refine wpAny_bind (wpAny_pure ?_)
   exact tail _ rfl rfl (put_dum T.dum _)
end
end
section
open PySem PySem.W PyProof.Rows
section
variable {w : World} {A : Around} {E : Value → Shared → Prop} {s : Shared}
theorem fresh_tups {g : Heap} {led : Bool} : Tups w g #[] (.fresh 0 0 led) [] :=
 ⟨[], [], ⟨rfl, rfl, rfl, List.Pairwise.nil, (fun _ m => absurd m List.not_mem_nil), covers7, Nat.zero_le _, (fun _ m => absurd m List.not_mem_nil)⟩, .nil, List.Perm.refl _, List.nodup_nil, .inl rfl, (show 0 * 5 < 7 * 3 by decide)⟩
theorem SetHas.noDict {a : Addr} {es ep t} (hS : SetHas s.heap a es ep t) : ∀ b, Value.ref a = .ref b → ∃ ob, s.heap.get? b = some ob ∧ ob.dict = none :=
 fun b e => by injection e with e; subst e; obtain ⟨o, ho, hc, _⟩ := hS; exact ⟨o, ho, hc.2.1⟩
theorem SetHas.typeIs {a : Addr} {es ep t} (hS : SetHas s.heap a es ep t) : s.TypeIs (.ref a) "set" := by obtain ⟨o, ho, hc, _⟩ := hS; exact ⟨o, ho, hc.1⟩
theorem call_add_tup {g : Heap} {a b : Addr} {es : Array (Int × Value)} {ep : Nat} {t : SetTable} {l : List (List Str)} {k : List Str} {Q : Value → Shared → Prop} (gh : Keep g s.heap) (hu : A.units + 66 < cLine) (hS : SetHas s.heap a es ep t) (hT : Tups w g es t l)
  (hkg : (TK w).is g k (.ref b)) (hroom : l.length ≤ 70)
  (H : ∀ h' es' ep' t' tk, Heap.SameBut a s.heap h' → SetHas h' a es' ep' t' → Tups w g es' t' (addL l k) → Q .none { s with heap := h', toks := tk }) :
  wpAny (model P w) A (call (.builtin "set.add") [.ref a, .ref b]) Q E s := by
 have hk : (TK w).is s.heap k (.ref b) := (TK w).keeps (fun b o _ _ _ e => gh b o e) hkg
 refine wpAny_call_entry F.slot_set_add hS.typeIs F.entry_set_add ?_ (F.args_set_add_2 _ _)
 unfold Builtin.«set.add» Builtin.Frozenset.oneOther
 simp only [List.isEmpty_nil, bind_assoc]
 unfold Builtin.Frozenset.addrOf setAdd
 refine wpAny_bind (wpAny_pure ?_)
 try dsimp only
 refine wpAny_bind (wpAny_pure ?_)
 try dsimp only
 refine wpAny_bind ?_
 refine wpAny_holding ?_
 have hun : ∀ {B : Around}, B.units ≤ A.units + 64 → B.units + (TK w).need < cLine := fun hb => by
  have : (TK w).need = 1 := rfl
  lia
 refine wpAny_bind ((TK w).pyHash (hun ?_) hk ?_)
 ·show A.units + 1 ≤ A.units + 64; lia
 refine addTup (s := { s with toks := _ }) gh (hun ?_) hS hT hkg hroom fun r h' es' ep' t' hsb hS' hT' => ?_
 ·show A.units + 1 ≤ A.units + 64; lia
 show wpAny _ _ (ret Value.none) _ _ _
 exact wpAny_pure ⟨_, rfl, H h' es' ep' t' _ hsb hS' hT'⟩
theorem call_len_tup {g : Heap} {a : Addr} {es : Array (Int × Value)} {ep : Nat} {t : SetTable} {l : List (List Str)} {Q : Value → Shared → Prop} (hS : SetHas s.heap a es ep t) (hT : Tups w g es t l) (H : ∀ tk tk', Q (.int l.length tk) { s with toks := tk' }) :
  wpAny (model P w) A (call (.builtin "len") [.ref a]) Q E s := by
 obtain ⟨o, ho, hex, hd, hf⟩ := hS
 obtain ⟨zs, ks, T, hK, hp, hnd, hmask, hfill⟩ := hT
 have hlen : es.size = l.length := by rw [T.esize, ← hp.length_eq, ← hK.length, List.length_map]
 refine call_len_set ho hex hd hf ?_ ?_
 ·rw [hlen]
  rcases hmask with e | e | e <;> rw [e] at hfill <;> lia
 ·rw [hlen]
  exact H _ _
end
end
section
open PySem PySem.W PyProof.Rows
noncomputable abbrev eLaw (L : Addr) : Env := envOfC "law" (fnOfSt (topSt 11)).scope L 301 (.ref 300)
noncomputable def CellE (c : Addr) (v : Option Value) : Ent := (c, fun h => h.IsCell c v)
theorem law_cells (L : Addr) : cellsFrom (L + 1) (fnOfSt (topSt 11)).scope.names [] = ([("place", L + 1 + 1 + 1), ("text", L + 1 + 1), ("word", L + 1)] : List (Str × Addr)) := by rfl
theorem law_word (L : Addr) : (eLaw L).cells.lookup ("word" : Str) = some (L + 1) := by
 show (cellsFrom (L + 1) (fnOfSt (topSt 11)).scope.names []).lookup _ = _
 rw [law_cells]; rfl
theorem law_text (L : Addr) : (eLaw L).cells.lookup ("text" : Str) = some (L + 1 + 1) := by
 show (cellsFrom (L + 1) (fnOfSt (topSt 11)).scope.names []).lookup _ = _
 rw [law_cells]; rfl
theorem law_place (L : Addr) : (eLaw L).cells.lookup ("place" : Str) = some (L + 1 + 1 + 1) := by
 show (cellsFrom (L + 1) (fnOfSt (topSt 11)).scope.names []).lookup _ = _
 rw [law_cells]; rfl
section
variable {w : World} {A : Around} {E : Value → Shared → Prop} {R : Result → Shared → Prop} {K : Frag} {mg mb : Str → Option Value} {gs : Array GenState} {dr : Drawn} {os : OsState}
 {g h : Heap} {t : Tok}
theorem enterLaw {sa : Addr} (hf : HasFn K 301 "law" "law" (fnOfSt (topSt 11)) .none (.ref 300)) (gh : Keep g h) (B : Base w K mg mb g) (hroom : A.depth < recursionLimit)
  (H : ∀ h₁ L t' m, m "script" = some (.ref sa) → Cur RO g h L g h₁ m [CellE (L + 1) none, CellE (L + 1 + 1) none, CellE (L + 1 + 1 + 1) none] →
   wpAny (model P w) (A.deeper (eLaw L)) (execs (fnOfSt (topSt 11)).body (eLaw L))
    (fun fl s' => R (.ok (.ret (match fl with | .ret v => v | _ => .none))) s')
    (fun e s' => wpAny (model P w) (A.deeper (eLaw L)) (leaving (eLaw L) e) (fun _ s'' => R (.error e) s'') (fun e' s'' => R (.error e') s'') s')
    ⟨h₁, gs, dr, t', os⟩) :
  codeAny (model P w) A (.call (.ref 301) ⟨[.ref sa], []⟩) R ⟨h, gs, dr, t, os⟩ := by
 obtain ⟨⟨pm, ho⟩, hcd⟩ := hf
 refine codeAny_call_cells (s := ⟨h, gs, dr, t, os⟩) (fd := fnOf "law" "law" (fnOfSt (topSt 11)).params (fnOfSt (topSt 11)).body (fnOfSt (topSt 11)).scope .none .none .none pm none (.ref 300) .none) (body := (fnOfSt (topSt 11)).body) (binds := [("script", .ref sa)])
  hroom (gh _ _ (B.X _ _ ho)) rfl (B.lim.keeps gh) (codeRec_of (B.X.keeps gh) hcd) rfl (by with_unfolding_all rfl) rfl (fun x hx => ?_) (fun s₁ X => ?_) (by rfl) (by rfl) (by rfl)
 ·rw [List.mem_singleton.mp hx]; exact .inl (by rfl)
 ·(refine exE2 X.done fun h₁ tk zr2 => anE2 zr2 fun ze1 hk => ?_; clear zr2; subst ze1)
  have hsz : ∀ b, h.objs.size ≤ b → h.get? b = none := fun b hb => by
   cases q : h.get? b with
   | none => rfl
   | some o => exact absurd (Heap.lt_size q) (Nat.not_lt.mpr hb)
  have hgz : ∀ b, h.objs.size ≤ b → g.get? b = none := fun b hb => by
   cases q : g.get? b with
   | none => rfl
   | some o => have := gh b o q; rw [hsz b hb] at this; cases this
  have cellAt : ∀ n c, (n, c) ∈ ([("place", h.objs.size + 1 + 1 + 1), ("text", h.objs.size + 1 + 1), ("word", h.objs.size + 1)] : List (Str × Addr)) → ∃ o, h₁.get? c = some o ∧ o.data = .cell none := fun n c hm => by
   have e : (callEnvC (fnOf "law" "law" (fnOfSt (topSt 11)).params (fnOfSt (topSt 11)).body (fnOfSt (topSt 11)).scope .none .none .none pm none (.ref 300) .none) h.objs.size 301).cells = ([("place", h.objs.size + 1 + 1 + 1), ("text", h.objs.size + 1 + 1), ("word", h.objs.size + 1)] : List (Str × Addr)) := law_cells h.objs.size
   have hl : ∀ n c, (n, c) ∈ ([("place", h.objs.size + 1 + 1 + 1), ("text", h.objs.size + 1 + 1), ("word", h.objs.size + 1)] : List (Str × Addr)) → ([("place", h.objs.size + 1 + 1 + 1), ("text", h.objs.size + 1 + 1), ("word", h.objs.size + 1)] : List (Str × Addr)).lookup n = some c := fun n c hm => by
    simp only [List.mem_cons, List.not_mem_nil, or_false, Prod.mk.injEq] at hm
    rcases hm with ⟨rfl, rfl⟩ | ⟨rfl, rfl⟩ | ⟨rfl, rfl⟩ <;> rfl
   exact X.cell n c (by rw [e]; exact hl n c hm)
  have cellE : ∀ n c, (n, c) ∈ ([("place", h.objs.size + 1 + 1 + 1), ("text", h.objs.size + 1 + 1), ("word", h.objs.size + 1)] : List (Str × Addr)) → EntAt g h₁ (CellE c none) := fun n c hm => by
   obtain ⟨o, ho, hd⟩ := cellAt n c hm
   exact ⟨o, ho, fun h' _ e => ⟨o, e, hd⟩⟩
  have keep : Keep h h₁ := hk
  refine H h₁ h.objs.size tk _ ?_ ⟨⟨Keep.refl _, gh.trans keep, fun b o _ e => keep b o e, live_of_keep keep, fun b e ne => absurd ne e⟩, ⟨X.toInCall.ns, hgz _ (Nat.le_refl _)⟩, size_none h, ⟨fun e me => ?_, ?_, fun e me => ?_⟩, fun e me => ?_, fun e me => ?_⟩
  ·rfl
  ·simp only [List.mem_cons, List.not_mem_nil, or_false] at me
   rcases me with rfl | rfl | rfl
   ·exact cellE "word" _ (by simp)
   ·exact cellE "text" _ (by simp)
   ·exact cellE "place" _ (by simp)
  ·simp [CellE]
  ·simp only [List.mem_cons, List.not_mem_nil, or_false] at me
   rcases me with rfl | rfl | rfl <;> exact hgz _ (by show _ ≤ _ + 1; lia)
  ·simp only [List.mem_cons, List.not_mem_nil, or_false] at me
   have ne : ∀ n : Nat, n + 1 ≠ n ∧ n + 1 + 1 ≠ n ∧ n + 1 + 1 + 1 ≠ n := fun n => by lia
   rcases me with rfl | rfl | rfl
   ·exact (ne _).1
   ·exact (ne _).2.1
   ·exact (ne _).2.2
  ·simp only [List.mem_cons, List.not_mem_nil, or_false] at me
   rcases me with rfl | rfl | rfl <;> exact .inr (hsz _ (by show _ ≤ _ + 1; lia))
end
end
section
open PySem PySem.W PyProof.Rows
theorem Cur.comp {V : Addr → Prop} {g₀ h₀ : Heap} {L : Addr} {g h h' : Heap} {m m' : Str → Option Value} {ow : List Ent} (C : Cur V g₀ h₀ L g h m ow) (k : ∀ b o, b ≠ L → h.get? b = some o → h'.get? b = some o) (hn : h'.Ns L m') :
  ∃ g', Cur V g₀ h₀ L g' h' m' ow ∧ Keep g g' ∧ ∀ b o, h.get? b = none → h'.get? b = some o → g'.get? b = some o := by
 have hgL : ∀ b o, g.get? b = some o → b ≠ L := fun b o e z => by rw [z, C.F.off] at e; cases e
 have kg : Keep g (grow g h h') := fun b o e => grow_get.mpr ⟨k _ _ (hgL _ _ e) (C.X.gh _ _ e), .inl (by rw [e]; exact Option.some_ne_none _)⟩
 have x : Ext (fun b => b = L) g h (grow g h h') h' := ⟨kg, fun b o e => (grow_get.mp e).1, fun b o nv e => k b o nv e, fun b e => by
   by_cases z : b = L
   ·rw [z]; exact Ns_some hn
   ·exact (by cases q : h.get? b with
     | none => exact absurd q e
     | some o => rw [k b o z q]; exact Option.some_ne_none _), fun b e ne => by
   cases q : (grow g h h').get? b with
   | none => exact absurd q e
   | some o => exact .inr ((grow_get.mp q).2.resolve_left fun z => z ne)⟩
 refine ⟨_, (anI3 ⟨C.X.trans x fun b z => .inr (z ▸ C.new), ⟨hn, ?_⟩, C.new, C.O.ext x C.nL, C.nL, C.vis⟩ kg (fun b o e e' => grow_get.mpr ⟨e', .inr e⟩))⟩
 cases q : (grow g h h').get? L with
 | none => rfl
 | some o =>
  rcases (grow_get.mp q).2 with z | z
  ·exact absurd C.F.off z
  ·exact absurd z (Ns_some C.F.ns)
section
variable {w : World} {A : Around} {E : Value → Shared → Prop} {gs : Array GenState} {dr : Drawn} {t : Tok} {os : OsState} {env : Env} {V : Addr → Prop} {g₀ h₀ g h : Heap} {m : Str → Option Value} {ow : List Ent}
theorem nmE {x : Str} {pos : Pos} {v : Value} {Q : Value → Shared → Prop} (C : Cur V g₀ h₀ env.locals g h m ow) (hv : m x = some v) (H : Q v ⟨h, gs, dr, t, os⟩)
  (hk : env.scope.kind = .function := by rfl) (hl : env.kindOf x = some .local := by rfl) (hd : (x == ("__debug__" : Str)) = false := by decide) :
  wpAny (model P w) A (eval (.Name x pos) env) Q E ⟨h, gs, dr, t, os⟩ := wpAny_Name (wpAny_loadName_local (s := ⟨h, gs, dr, t, os⟩) hk hl C.F.ns hv H) hd
theorem stE {x : Str} {v : Value} {Q : Unit → Shared → Prop} (C : Cur V g₀ h₀ env.locals g h m ow)
  (H : ∀ h' t' m', m' x = some v → (∀ y, y ≠ x → m' y = m y) → Cur V g₀ h₀ env.locals g h' m' ow → Q () ⟨h', gs, dr, t', os⟩)
  (hk : env.scope.kind = .function := by rfl) (hl : env.kindOf x = some .local := by rfl) :
  wpAny (model P w) A (storeName env x v) Q E ⟨h, gs, dr, t, os⟩ :=
 Cur.storeX C (fun h' t' C' _ => H h' t' _ (if_pos rfl) (fun y n => if_neg n) C') hk hl
theorem nmC {x : Str} {pos : Pos} {c : Addr} {v : Value} {Q : Value → Shared → Prop} (C : Cur V g₀ h₀ env.locals g h m ow) (me : CellE c (some v) ∈ ow) (hc : env.cells.lookup x = some c) (H : Q v ⟨h, gs, dr, t, os⟩)
  (hk : env.scope.kind = .function := by rfl) (hl : env.kindOf x = some .cell := by rfl) (hd : (x == ("__debug__" : Str)) = false := by decide) :
  wpAny (model P w) A (eval (.Name x pos) env) Q E ⟨h, gs, dr, t, os⟩ := wpAny_Name (wpAny_loadName_cell (s := ⟨h, gs, dr, t, os⟩) hk hl hc (C.get (CellE c (some v)) me) H) hd
theorem stC' {x : Str} {c : Addr} {v : Value} {v₀ : Option Value} {l r : List Ent} {Q : Unit → Shared → Prop} (C : Cur V g₀ h₀ env.locals g h m (l ++ CellE c v₀ :: r)) (hc : env.cells.lookup x = some c)
  (H : ∀ h', Cur V g₀ h₀ env.locals g h' m (l ++ CellE c (some v) :: r) → Q () ⟨h', gs, dr, t, os⟩)
  (hk : env.scope.kind = .function := by rfl) (hl : env.kindOf x = some .cell := by rfl) :
  wpAny (model P w) A (storeName env x v) Q E ⟨h, gs, dr, t, os⟩ := by
 refine wpAny_storeName_cell (s := ⟨h, gs, dr, t, os⟩) hk hl hc (C.get (CellE c v₀) (memR mem0)) fun h' hv hs => H h' (C.upd hs ?_)
 obtain ⟨o, ho, hd⟩ := hv
 exact ⟨o, ho, fun h'' _ e => ⟨o, e, hd⟩⟩
theorem kI' {env : Env} {i : Int} {k pos} {Q : Value → Shared → Prop} (H : ∀ t' t'', Q (.int i t') ⟨h, gs, dr, t'', os⟩) : wpAny (model P w) A (eval (.Constant (.int i) k pos) env) Q E ⟨h, gs, dr, t, os⟩ := wpAny_Constant_int (s := ⟨h, gs, dr, t, os⟩) (H _ _)
theorem kS' {env : Env} {x : Str} {k pos} {Q : Value → Shared → Prop} (H : ∀ t' t'', Q (.str x t') ⟨h, gs, dr, t'', os⟩) : wpAny (model P w) A (eval (.Constant (.str x) k pos) env) Q E ⟨h, gs, dr, t, os⟩ := wpAny_Constant_str (s := ⟨h, gs, dr, t, os⟩) (H _ _)
end
noncomputable def lawRaw (ns : List Int) : List (List Nat) := ((ns.drop 1).take 8).map fun n => lawWord n 4
theorem intsAt {vs : List Value} {ns : List Int} (h : IntsAre vs ns) : ∀ (i : Nat) v, vs[i]? = some v → ∃ n t, ns[i]? = some n ∧ v = .int n t := by
 induction h with
 | nil => intro i v e; simp at e
 | cons n t _ ih =>
  intro i v e
  cases i with
  | zero => simp at e; exact (exI2 n t ⟨(by simp), e.symm⟩)
  | succ i => simpa using ih i v (by simpa using e)
theorem paired_strs {f : Int → List Nat} : ∀ {vs ys : List Value} {ns : List Int}, IntsAre vs ns → Paired (fun v y => ∃ n t tt, v = Value.int n t ∧ y = .str (st (f n)) tt) vs ys → StrsAre ys (ns.map fun n => st (f n)) := by
 intro vs ys ns h
 induction h generalizing ys with
 | nil => intro p; cases p; exact .nil
 | cons n t _ ih =>
  intro p
  cases p with
  | cons q r =>
   (refine exE3 q fun n' t' tt zr1 => anE2 zr1 fun e e2 => ?_; clear q zr1)
   cases e
   subst e2
   exact .cons _ _ (ih r)
theorem list_places {vs vs' : List Value} (h : vs.length = vs'.length) (e : ∀ (j : Nat) v, vs[j]? = some v → vs'[j]? = some v) : vs = vs' := by
 apply List.ext_getElem?
 intro i
 by_cases hi : i < vs.length
 ·rw [List.getElem?_eq_getElem hi, e i _ (List.getElem?_eq_getElem hi)]
 ·rw [List.getElem?_eq_none (by lia), List.getElem?_eq_none (by lia)]
structure KFL (K : Frag) : Prop extends KF13 K where
 fLaw : HasFn K 301 "law" "law" (fnOfSt (topSt 11)) .none (.ref 300)
section
variable {w : World} {A : Around} {E : Value → Shared → Prop} {K : Frag} {mg mb : Str → Option Value} {gs : Array GenState} {dr : Drawn} {t : Tok} {os : OsState} {L : Addr} {g₀ h₀ g h : Heap} {m : Str → Option Value} {ow : List Ent} {outer : List Env}
theorem law_raw (kf : KFL K) (B : Base w K mg mb g) (sr : g.NoSeer) (hroom : A.depth + 2 + Builtin.pylongFrames < recursionLimit) (hh : A.handled = none) (hfr : A.frames = some outer) {sa : Addr} {vs : List Value} {ns : List Int} {Q : Flow → Shared → Prop}
  (C : Cur RO g₀ h₀ L g h m ow) (hm : m "script" = some (.ref sa)) (hl : g.IsList sa vs.toArray) (hi : IntsAre vs ns) (hn : ns.length ≤ 1000)
  (H : ∀ g' h' m' t' D rs, Keep g g' → Cur RO g₀ h₀ L g' h' m' ow → m' "raw" = some (.ref D) → (∀ y : Str, y ≠ "raw" → m' y = m y) → g'.IsList D rs → StrsAre rs.toList ((lawRaw ns).map st) → Q .next ⟨h', gs, dr, t', os⟩) :
  wpAny (model P w) (A.deeper (eLaw L)) (exec ((fnOfSt (topSt 11)).body.getD 0 (.Pass default)) (eLaw L)) Q E ⟨h, gs, dr, t, os⟩ := by
 have hlen : vs.length = ns.length := hi.length
 refine wpAny_Assign_ListComp_free (prog := P) (x := "number") (y := "raw") (cl := []) (fun _ => true) (fun v y => ∃ n t tt, v = Value.int n t ∧ y = .str (st (lawWord n 4)) tt) (by rfl) (closureFor_none (by decide)) (by decide) (by rfl) (by decide) (by rfl) (by rfl) (by rfl) ?_ (by intro _; rfl)
 refine wpAny_Subscript_list_slice (nmE C hm (wpAny_evalPart_some (kI' fun t₁ _ => wpAny_evalPart_some (kI' fun t₂ t₃ => (exI4 sa vs.toArray (some 1) (some 9) (anI6 rfl (hl.at fun o e => C.X.gh _ _ e) ?_ (.int _ _) (.int _ _) ?_))))))
 ·rw [sizeLine_eq]; simp; lia
 have hitems := slice_ints_plain hi 1 9
 have hsz := slicePick_size_le vs.toArray (some 1) (some 9) none
 have hns : (ns.drop (clipAt ns.length 1)).take (clipAt ns.length 9 - clipAt ns.length 1) = (ns.drop 1).take 8 := by
  rw [show clipAt ns.length 1 = min 1 ns.length from clipAt_nat ns.length 1, show clipAt ns.length 9 = min 9 ns.length from clipAt_nat ns.length 9]
  by_cases z : ns.length ≤ 1
  ·rw [List.drop_of_length_le (by lia : ns.length ≤ min 1 ns.length), List.drop_of_length_le z]; simp
  ·rw [Nat.min_eq_left (by lia : 1 ≤ ns.length)]
   by_cases z9 : 9 ≤ ns.length
   ·rw [Nat.min_eq_left z9]
   ·rw [Nat.min_eq_right (by lia : ns.length ≤ 9), List.take_of_length_le (by simp), List.take_of_length_le (by simp; lia)]
 rw [hns] at hitems
 simp only [List.size_toArray] at hsz
 generalize slicePick vs.toArray (some 1) (some 9) none = items at hitems hsz
 dsimp only
 have hD0 : ((h.push { cls := .type "slice", data := .fields #[Value.int 1 t₁, .int 9 t₂, .none] }).push { cls := .type "list", data := .seq items }).IsList (h.objs.size + 1) items := by
  have e1 := Heap.get?_push_size (h.push { cls := .type "slice", data := .fields #[Value.int 1 t₁, .int 9 t₂, .none] }) (o := { cls := .type "list", data := .seq items }) rfl
  rw [Heap.size_push] at e1
  exact ⟨_, e1, rfl, 0, rfl⟩
 have k2 : Keep h ((h.push { cls := .type "slice", data := .fields #[Value.int 1 t₁, .int 9 t₂, .none] }).push { cls := .type "list", data := .seq items }) := (Keep.push _ _).trans (Keep.push _ _)
 generalize (h.push { cls := .type "slice", data := .fields #[Value.int 1 t₁, .int 9 t₂, .none] }).push { cls := .type "list", data := .seq items } = h2 at hD0 k2
 generalize h.objs.size + 1 = D0 at hD0
 refine wpAny_pyIter_list (s := ⟨h2, gs, dr, _, os⟩) hD0 ?_
 have ltD : D0 < h2.objs.size := by obtain ⟨o, ho, _⟩ := hD0; exact Heap.lt_size ho
 have k3 : Keep h (h2.push { cls := .type "list_iterator", data := .fields #[.ref D0, .int 0 0] }) := k2.trans (Keep.push _ _)
 have newI : ∀ b o, h.get? b = some o → b ≠ h2.objs.size := fun b o e => Nat.ne_of_lt (Heap.lt_size (k2 b o e))
 refine (exI7 h2.objs.size _ _ _ _ _ m (anI9 rfl (Walks.list (A := A.deeper (eLaw L)) (show (A.deeper (eLaw L)).handled = none from hh) h2.objs.size D0 (Nat.ne_of_lt ltD) items) (by rw [sizeLine_eq]; lia) ⟨⟨_, Heap.get?_push_size _ rfl, rfl, rfl⟩, hD0.push _⟩ (fun b hb => ?_) (fun hb => ?_) (Ns_at C.F.ns fun o e => k3 _ o e) ⟨fun Cc i v s₃ m₃ E' hCc hv hns₃ hmv hk _ => wpAny_pure ⟨rfl, _, _, rfl, fun _ _ e => e⟩, fun Cc i v s₃ m₃ E' hCc hv hpv hns₃ hmv hk _ => ?_⟩ (fun D h' tk ys vs' hD hlD hpD hlv hpv hF hnL hk => ?_)))
 ·have sz : (h2.push { cls := .type "list_iterator", data := .fields #[.ref D0, .int 0 0] }).objs.size = h2.objs.size + 1 := Heap.size_push ..
  show b < (h2.push _).objs.size
  rw [sz]
  rcases List.mem_cons.mp hb with rfl | hb
  ·exact Nat.lt_succ_self _
  ·rw [List.mem_singleton.mp hb]; exact Nat.lt_succ_of_lt ltD
 ·obtain ⟨o, es, ep, ho, _⟩ := C.F.ns
  exact newI _ o ho (List.mem_singleton.mp hb)
 ·have kg₃ : Keep g s₃.heap := fun b o e => hk b o (fun z => newI b o (C.X.gh b o e) (List.mem_singleton.mp z)) (k3 b o (C.X.gh b o e))
  (refine exE2 (intsAt hitems i v (by rw [Array.getElem?_toList]; exact hv)) fun n tn zr3 => anE2 zr3 fun hnn ze2 => ?_; clear zr3; subst ze2)
  obtain ⟨h₃, gs₃, dr₃, t₃', os₃⟩ := s₃
  refine callG2 kg₃ B kf.gWord kf.kWord (ldVarK hns₃ hmv (kI' fun t₅ t₆ => ⟨B.X.keeps kg₃, ?_⟩))
  refine word_spec (A := A.deeper (eLaw L)) kf.toKF11 kg₃ B sr (by show A.depth + 1 + 1 + _ < _; lia) hh (Around.frames_deeper hfr) fun g' h' t' tt x => ?_
  exact ⟨(exI3 n tn tt ⟨rfl, rfl⟩), h', t', rfl, x.keep⟩
 ·have e : vs' = items.toList := list_places (by rw [hlv, Array.length_toList]) fun j v hj => by rw [Array.getElem?_toList]; exact hpv j v hj
  subst e
  rw [List.filter_eq_self.mpr (fun _ _ => rfl)] at hF
  (refine Exists.elim (C.comp (h' := h') (fun b o hb e => hk b o hb (fun z => newI b o e (List.mem_singleton.mp z)) (k3 b o e)) hnL) fun g' zr4 => anE3 zr4 fun C' kg' fz => ?_; clear zr4)
  have hDh : h.get? D = none := by
   cases q : h.get? D with
   | none => rfl
   | some o => have := k3 D o q; rw [hD] at this; cases this
  refine H g' h' _ tk D ys kg' C' (if_pos rfl) (fun y hy => if_neg hy) (hlD.at fun o e => fz D o hDh e) ?_
  have := paired_strs (f := fun n => lawWord n 4) hitems hF
  unfold lawRaw
  rw [List.map_map]
  exact this
end
end
section
open PySem PySem.W PyProof.Rows
section
variable {w : World} {A : Around} {E : Value → Shared → Prop} {gs : Array GenState} {dr : Drawn} {t : Tok} {os : OsState} {env : Env} {h : Heap}
theorem compL {elt iter : Expr} {x : Str} {px : Pos} {ifs : List Expr} {scope : Scope} {cl : List (Str × Addr)} {pos : Pos} {a : Addr} {items : Array Value} {Q : Value → Shared → Prop} (p : Value → Bool) (F : Value → Value → Prop)
  (hclos : closureFor scope env = pure cl) (hh : A.handled = none)
  (hit : ∀ Q' : Value → Shared → Prop, (∀ h' t', Keep h h' → h'.IsList a items → Q' (.ref a) ⟨h', gs, dr, t', os⟩) → wpAny (model P w) A (eval iter env) Q' E ⟨h, gs, dr, t, os⟩) (hz : items.size ≤ 100000)
  (tests : ∀ (C : Addr) (i : Nat) (v : Value) (s₃ : Shared) (m₃ : Str → Option Value) (E' : Value → Shared → Prop), items[i]? = some v → s₃.heap.Ns C m₃ → m₃ x = some v → Keep h s₃.heap →
   wpAny (model P w) A (forIn ifs true fun c r => if r = true then do let ok ← isTrue c (compEnvC scope cl C env) (eval c (compEnvC scope cl C env)); pure (ForInStep.yield ok) else pure (ForInStep.yield r))
    (fun ok s₄ => ok = p v ∧ Keeps s₃ s₄) E' s₃)
  (elts : ∀ (C : Addr) (i : Nat) (v : Value) (s₃ : Shared) (m₃ : Str → Option Value) (E' : Value → Shared → Prop), items[i]? = some v → p v = true → s₃.heap.Ns C m₃ → m₃ x = some v → Keep h s₃.heap →
   wpAny (model P w) A (eval elt (compEnvC scope cl C env)) (fun y s₄ => F v y ∧ Keeps s₃ s₄) E' s₃)
  (H : ∀ h' t' D ys, Keep h h' → h.get? D = none → h'.IsList D ys → Paired F (items.toList.filter p) ys.toList → Q (.ref D) ⟨h', gs, dr, t', os⟩)
  (hcell : ∀ y ∈ scope.names, y.2 ≠ .cell := by decide) (hkind : scope.kind = .function := by rfl)
  (hnames : ∀ y ∈ scope.names, y.2 = .local → scope.names.lookup y.1 = some .local := by decide) (hx : scope.names.lookup x = some .local := by rfl) (hs : ∀ x, foldedSetIterable iter env x = pure x := by intro _; rfl) :
  wpAny (model P w) A (eval (.ListComp elt [⟨.Name x px, iter, ifs, 0⟩] scope pos) env) Q E ⟨h, gs, dr, t, os⟩ := by
 refine wpAny_ListComp_free (prog := P) p F hclos hcell hkind hnames hx (hit _ fun h2 t2 k2 hl => ?_) hs
 refine wpAny_pyIter_list (s := ⟨h2, gs, dr, t2, os⟩) hl ?_
 have ltD : a < h2.objs.size := by obtain ⟨o, ho, _⟩ := hl; exact Heap.lt_size ho
 have k3 : Keep h (h2.push { cls := .type "list_iterator", data := .fields #[.ref a, .int 0 0] }) := k2.trans (Keep.push _ _)
 have newI : ∀ b o, h.get? b = some o → b ≠ h2.objs.size := fun b o e => Nat.ne_of_lt (Heap.lt_size (k2 b o e))
 have kk : ∀ h₃ : Heap, (∀ b o, b ∉ [h2.objs.size] → (h2.push { cls := .type "list_iterator", data := .fields #[.ref a, .int 0 0] }).get? b = some o → h₃.get? b = some o) → Keep h h₃ := fun h₃ hk b o e =>
  hk b o (fun z => newI b o e (List.mem_singleton.mp z)) (k3 b o e)
 refine (exI6 h2.objs.size _ _ _ _ _ (anI7 rfl (Walks.list hh h2.objs.size a (Nat.ne_of_lt ltD) items) (by rw [sizeLine_eq]; lia) ⟨⟨_, Heap.get?_push_size _ rfl, rfl, rfl⟩, hl.push _⟩ (fun b hb => ?_) ⟨fun Cc i v s₃ m₃ E' hCc hv hns₃ hmv hk _ => ?_, fun Cc i v s₃ m₃ E' hCc hv hpv hns₃ hmv hk _ => ?_⟩ (fun D h' tk ys vs' hD hlD hpD hlv hpv hF hk => ?_)))
 ·have sz : (h2.push { cls := .type "list_iterator", data := .fields #[.ref a, .int 0 0] }).objs.size = h2.objs.size + 1 := Heap.size_push ..
  show b < (h2.push _).objs.size
  rw [sz]
  rcases List.mem_cons.mp hb with rfl | hb
  ·exact Nat.lt_succ_self _
  ·rw [List.mem_singleton.mp hb]; exact Nat.lt_succ_of_lt ltD
 ·exact tests Cc i v s₃ m₃ E' hv hns₃ hmv (kk _ hk)
 ·exact elts Cc i v s₃ m₃ E' hv hpv hns₃ hmv (kk _ hk)
 ·have e : vs' = items.toList := list_places (by rw [hlv, Array.length_toList]) fun j v hj => by rw [Array.getElem?_toList]; exact hpv j v hj
  subst e
  refine H h' tk D ys (kk _ hk) ?_ hlD hF
  cases q : h.get? D with
  | none => rfl
  | some o => have := k3 D o q; rw [hD] at this; cases this
theorem compLA {elt iter : Expr} {x y : Str} {px py : Pos} {ifs : List Expr} {scope : Scope} {cl : List (Str × Addr)} {pos spos : Pos} {a : Addr} {items : Array Value} {V : Addr → Prop} {g₀ h₀ g : Heap} {m : Str → Option Value} {ow : List Ent} {Q : Flow → Shared → Prop} (p : Value → Bool) (F : Value → Value → Prop)
  (C : Cur V g₀ h₀ env.locals g h m ow)
  (hclos : closureFor scope env = pure cl) (hh : A.handled = none)
  (hit : ∀ Q' : Value → Shared → Prop, (∀ h' t', Keep h h' → h'.IsList a items → Q' (.ref a) ⟨h', gs, dr, t', os⟩) → wpAny (model P w) A (eval iter env) Q' E ⟨h, gs, dr, t, os⟩) (hz : items.size ≤ 100000)
  (tests : ∀ (C : Addr) (i : Nat) (v : Value) (s₃ : Shared) (m₃ : Str → Option Value) (E' : Value → Shared → Prop), items[i]? = some v → s₃.heap.Ns C m₃ → m₃ x = some v → Keep h s₃.heap →
   wpAny (model P w) A (forIn ifs true fun c r => if r = true then do let ok ← isTrue c (compEnvC scope cl C env) (eval c (compEnvC scope cl C env)); pure (ForInStep.yield ok) else pure (ForInStep.yield r))
    (fun ok s₄ => ok = p v ∧ Keeps s₃ s₄) E' s₃)
  (elts : ∀ (C : Addr) (i : Nat) (v : Value) (s₃ : Shared) (m₃ : Str → Option Value) (E' : Value → Shared → Prop), items[i]? = some v → p v = true → s₃.heap.Ns C m₃ → m₃ x = some v → Keep h s₃.heap →
   wpAny (model P w) A (eval elt (compEnvC scope cl C env)) (fun y s₄ => F v y ∧ Keeps s₃ s₄) E' s₃)
  (H : ∀ g' h' t' m' D ys, Keep g g' → Cur V g₀ h₀ env.locals g' h' m' ow → m' y = some (.ref D) → (∀ z, z ≠ y → m' z = m z) → g'.IsList D ys → Paired F (items.toList.filter p) ys.toList → Q .next ⟨h', gs, dr, t', os⟩)
  (hsw : swapsWith (.ListComp elt [⟨.Name x px, iter, ifs, 0⟩] scope pos) (some (.Name y py)) spos.line env = pure true := by rfl)
  (hcell : ∀ y ∈ scope.names, y.2 ≠ .cell := by decide) (hkind : scope.kind = .function := by rfl)
  (hnames : ∀ y ∈ scope.names, y.2 = .local → scope.names.lookup y.1 = some .local := by decide) (hx : scope.names.lookup x = some .local := by rfl)
  (hy : env.kindOf y = some .local := by rfl) (hp : (env.scope.kind == .class || (env.scope.kind == .module && env.locals != env.globals)) = false := by rfl) (hs : ∀ x, foldedSetIterable iter env x = pure x := by intro _; rfl) :
  wpAny (model P w) A (exec (.Assign [.Name y py] (.ListComp elt [⟨.Name x px, iter, ifs, 0⟩] scope pos) spos) env) Q E ⟨h, gs, dr, t, os⟩ := by
 refine wpAny_Assign_ListComp_free (prog := P) p F hsw hclos hcell hkind hnames hx hy hp (hit _ fun h2 t2 k2 hl => ?_) hs
 refine wpAny_pyIter_list (s := ⟨h2, gs, dr, t2, os⟩) hl ?_
 have ltD : a < h2.objs.size := by obtain ⟨o, ho, _⟩ := hl; exact Heap.lt_size ho
 have k3 : Keep h (h2.push { cls := .type "list_iterator", data := .fields #[.ref a, .int 0 0] }) := k2.trans (Keep.push _ _)
 have newI : ∀ b o, h.get? b = some o → b ≠ h2.objs.size := fun b o e => Nat.ne_of_lt (Heap.lt_size (k2 b o e))
 have kk : ∀ h₃ : Heap, (∀ b o, b ∉ [h2.objs.size] → (h2.push { cls := .type "list_iterator", data := .fields #[.ref a, .int 0 0] }).get? b = some o → h₃.get? b = some o) → Keep h h₃ := fun h₃ hk b o e =>
  hk b o (fun z => newI b o e (List.mem_singleton.mp z)) (k3 b o e)
 refine (exI7 h2.objs.size _ _ _ _ _ m (anI9 rfl (Walks.list hh h2.objs.size a (Nat.ne_of_lt ltD) items) (by rw [sizeLine_eq]; lia) ⟨⟨_, Heap.get?_push_size _ rfl, rfl, rfl⟩, hl.push _⟩ (fun b hb => ?_) (fun hb => ?_) (Ns_at C.F.ns fun o e => k3 _ o e) ⟨fun Cc i v s₃ m₃ E' hCc hv hns₃ hmv hk _ => ?_, fun Cc i v s₃ m₃ E' hCc hv hpv hns₃ hmv hk _ => ?_⟩ (fun D h' tk ys vs' hD hlD hpD hlv hpv hF hnL hk => ?_)))
 ·have sz : (h2.push { cls := .type "list_iterator", data := .fields #[.ref a, .int 0 0] }).objs.size = h2.objs.size + 1 := Heap.size_push ..
  show b < (h2.push _).objs.size
  rw [sz]
  rcases List.mem_cons.mp hb with rfl | hb
  ·exact Nat.lt_succ_self _
  ·rw [List.mem_singleton.mp hb]; exact Nat.lt_succ_of_lt ltD
 ·obtain ⟨o, es, ep, ho, _⟩ := C.F.ns
  exact newI _ o ho (List.mem_singleton.mp hb)
 ·exact tests Cc i v s₃ m₃ E' hv hns₃ hmv (kk _ hk)
 ·exact elts Cc i v s₃ m₃ E' hv hpv hns₃ hmv (kk _ hk)
 ·have e : vs' = items.toList := list_places (by rw [hlv, Array.length_toList]) fun j v hj => by rw [Array.getElem?_toList]; exact hpv j v hj
  subst e
  (refine Exists.elim (C.comp (h' := h') (fun b o hb e => hk b o hb (fun z => newI b o e (List.mem_singleton.mp z)) (k3 b o e)) hnL) fun g' zr1 => anE3 zr1 fun C' kg' fz => ?_; clear zr1)
  have hDh : h.get? D = none := by
   cases q : h.get? D with
   | none => rfl
   | some o => have := k3 D o q; rw [hD] at this; cases this
  exact H g' h' tk _ D ys kg' C' (if_pos rfl) (fun y hy => if_neg hy) (hlD.at fun o e => fz D o hDh e) hF
end
end
section
open PySem PySem.W PyProof.Rows
structure KFM (K : Frag) : Prop extends KFL K where
 kDfaF : keepIn K (.ref 282) = true
 gDfaF : nsIn K mainGlobals "strings_dfa" = some (some (.ref 282))
theorem exc_Exception : isSubtype (.type "Exception") (.type "BaseException") = pure true := by rw [isSubtype_type]; kernel_rfl
theorem sub_Exception : isSubtype (.type "Exception") (.type "Exception") = pure true := by rw [isSubtype_type]; kernel_rfl
theorem nt_Exception : isSubtype (.type ((Manifest.find? "Exception").elim "type" fun x => x.metatype)) (.type "tuple") = pure false := by rw [isSubtype_type]; kernel_rfl
section
variable {w : World} {A : Around} {E : Value → Shared → Prop} {K : Frag} {mg mb : Str → Option Value} {gs : Array GenState} {dr : Drawn} {t : Tok} {os : OsState} {L : Addr} {g₀ h₀ g h : Heap} {m : Str → Option Value} {ow : List Ent}
theorem law_refused {Q : Flow → Shared → Prop} (C : Cur RO g₀ h₀ L g h m ow)
  (H : ∀ h' m' t', Cur RO g₀ h₀ L g h' m' ow → m' "refused" = some (.bool false) → (∀ y : Str, y ≠ "refused" → m' y = m y) → Q .next ⟨h', gs, dr, t', os⟩) :
  wpAny (model P w) (A.deeper (eLaw L)) (exec ((fnOfSt (topSt 11)).body.getD 1 (.Pass default)) (eLaw L)) Q E ⟨h, gs, dr, t, os⟩ :=
 wpAny_Assign_Name (wpAny_Constant_bool (stE C fun h' t' m' e1 e2 C' => H h' m' t' C' e1 e2)) (by rfl)
theorem law_try (kf : KFM K) (B : Base w K mg mb g) (hroom : A.depth + 3 < recursionLimit) (hu : A.units + 70 < cLine) (hh : A.handled = none) (hfr : A.frames = some []) {D : Addr} {rs : Array Value} {ws : List (List Nat)} {r : Option Sb} {Q : Flow → Shared → Prop}
  (C : Cur RO g₀ h₀ L g h m ow) (hm : m "raw" = some (.ref D)) (hf : m "refused" = some (.bool false)) (hl : g.IsList D rs) (hs : StrsAre rs.toList (ws.map st)) (hg : Goes Sb.init ws r) (hcl : ∀ s, r = some s → ∃ a, Closes s a)
  (H : ∀ g' h' m' t', Keep g g' → Cur RO g₀ h₀ L g' h' m' ow → m' "refused" = some (.bool (decide (r = none))) → (∀ y : Str, y ≠ "refused" → m' y = m y) → Q .next ⟨h', gs, dr, t', os⟩) :
  wpAny (model P w) (A.deeper (eLaw L)) (exec ((fnOfSt (topSt 11)).body.getD 2 (.Pass default)) (eLaw L)) Q E ⟨h, gs, dr, t, os⟩ := by
 have hsz : rs.size = ws.length := by have := hs.length; simpa using this
 have hfrs : ∀ b, frs [eLaw L] b ↔ b = L := fun b => by
  unfold frs
  show b ∈ [L] ↔ _
  simp
 have C0 : Cur RO g₀ h₀ L g h m (ow ++ []) := C.eq (List.append_nil _).symm
 refine wpAny_noRaise (wpAny_Try_except (wpAny_execs_cons (wpAny_Expr_any (callG1 C.X.gh B kf.gDfaF kf.kDfaF (nmE C hm ⟨B.X.keeps C.X.gh, ?_⟩)))))
 refine strings_dfa_spec (A := A.deeper (eLaw L)) (outer := [eLaw L]) (fo := [FrE L m]) (r := r) kf.toKF6 C.X.gh B (by show A.depth + 1 + 2 < _; omega) (by show A.units + 3 + 60 < _; omega) hh (Around.frames_deeper hfr) (fun env me => ?_) (fun e me => ?_) C0.ownL hl hsz (fun i v e => ?_) hg (fun s hs' => ?_) (fun hr h₁ t₁ e base hfl hb hn hns => ?_)
 ·rw [List.mem_singleton.mp me]
  exact ⟨(by show (fnOfSt (topSt 11)).scope.kind ≠ .module; decide), (exI2 L m ⟨rfl, (List.mem_singleton.mpr rfl)⟩)⟩
 ·rw [List.mem_singleton.mp me]; exact (hfrs L).mpr rfl
 ·obtain ⟨wd, hwd⟩ : ∃ wd, ws[i]? = some wd := ⟨ws[i]'(by rw [← hsz]; exact (Array.getElem?_eq_some_iff.mp e).1), List.getElem?_eq_getElem _⟩
  obtain ⟨t', ht⟩ := hs.get i (st wd) (by rw [List.getElem?_map, hwd]; rfl)
  rw [Array.getElem?_toList, e] at ht
  cases ht
  exact (exI2 wd t' ⟨hwd, rfl⟩)
 ·obtain ⟨a, ha⟩ := hcl s hs'
  refine ⟨a, ha, fun g' h' t' d dx T Df F U x O' hU I => ?_⟩
  have C' := C0.callL x (fun b v => by obtain ⟨e', me, z⟩ := v; exact ⟨e', me, z⟩) O' fun e' me => ?_
  ·refine wpAny_execs_nil (wpAny_execs_nil ?_)
   exact H g' h' m t' x.gg (C'.drop (List.sublist_append_left _ _)) (by rw [hf, hs']; rfl) fun _ _ => rfl
  ·rcases List.mem_cons.mp me with rfl | me
   ·exact .inl ⟨_, List.mem_singleton.mpr rfl, rfl⟩
   ·rw [List.mem_singleton.mp me]; exact .inr hU
 ·obtain ⟨tp, hfl⟩ := hfl
  have back₁ : ∀ h', base.StaysIn h' → h₁.UpToSlots h' → ∃ g', Cur RO g₀ h₀ L g' h' m ow ∧ Keep g g' := fun h' k u => by
   (refine Exists.elim (C.comp (h' := h') (fun b o hb' e' => k b o (hb b o (fun z => hb' ((hfrs b).mp z)) e')) (u.ns (hns L m (List.mem_singleton.mpr rfl)))) fun g' zr1 => anE3 zr1 fun C' kg _ => ?_; clear zr1)
   exact ⟨g', C', kg⟩
  refine caught_fly (L := L) (outer := []) (base := base) (Around.frames_deeper hfr) rfl hfl exc_Exception nt_Exception sub_Exception (fun h' t' Q' k u hq => ?_) fun h' t' k u => ?_
  ·obtain ⟨g', C', kg⟩ := back₁ h' k u
   exact nameB (kg.trans C'.X.gh) B (kf.bn "Exception" (by decide)) bt_Exception (by decide) hq
  ·obtain ⟨g', C', kg⟩ := back₁ h' k u
   refine wpAny_execs_cons (wpAny_Assign_Name (wpAny_Constant_bool (stE C' fun h₂ t₂ m₂ e1 e2 C₂ => wpAny_execs_nil ?_)) (by rfl))
   exact H g' h₂ m₂ t₂ kg C₂ (by rw [e1, hr]; rfl) e2
end
end
section
open PySem PySem.W PyProof.Rows
section
variable {w : World} {A : Around} {E : Value → Shared → Prop} {env : Env}
theorem comp_enter {s : Shared} {elt target iter : Expr} {ifs : List Expr} {scope : Scope} {cl : List (Str × Addr)} {pos : Pos} {Q : Value → Shared → Prop}
  (hclos : closureFor scope env = pure cl)
  (h : wpAny (model P w) A (eval iter env) (fun xv s₁ => wpAny (model P w) A (pyIter xv) (fun it s₂ => ∀ D C h₃ t₃ m₃, s₂.heap.objs.size ≤ D → s₂.heap.objs.size ≤ C → D ≠ C → Keep s₂.heap h₃ → h₃.Ns C m₃ → h₃.PlainList D #[] →
   (∀ (Q' : Value → Shared → Prop) (E' : Value → Shared → Prop), Q' it { s₂ with heap := h₃, toks := t₃ } → wpAny (model P w) A (pyIter it) Q' E' { s₂ with heap := h₃, toks := t₃ }) ∧
   codeAny (model P w) A (.compLoop (.ListComp elt [⟨target, iter, ifs, 0⟩] scope pos) 0 it (.ref D) (compEnvC scope cl C env)) (fun r s' => r = .ok .next ∧ ∃ m, s'.heap.Ns C m ∧ ∀ h', Heap.SameBut C s'.heap h' → Q (.ref D) { s' with heap := h' }) { s₂ with heap := h₃, toks := t₃ }) E s₁) E s)
  (hcell : ∀ y ∈ scope.names, y.2 ≠ .cell := by decide) (hkind : scope.kind = .function := by rfl)
  (hnames : ∀ y ∈ scope.names, y.2 = .local → scope.names.lookup y.1 = some .local := by decide) (hs : ∀ x, foldedSetIterable iter env x = pure x := by intro _; rfl) :
  wpAny (model P w) A (eval (.ListComp elt [⟨target, iter, ifs, 0⟩] scope pos) env) Q E s := by
 rw [eval_ListComp]
 refine wpAny_comprehension_free (use := none) rfl hs hclos hkind hnames (wpAny_mono h (fun xv s₁ h₁ => wpAny_mono h₁ (fun it s₂ h₂ => ?_) fun _ _ e => e) fun _ _ e => e)
 refine wpAny_newObj_type (wpAny_newFunctionEnv hcell (by intro y hy; simp at hy) (fun h₁ hns₁ hsb₁ => ?_) hkind)
 dsimp only at hns₁ hsb₁ ⊢
 generalize hH2 : s₂.heap.push { cls := .type "list", dict := none, data := .seq ([] : List Value).toArray } = H2 at hns₁ hsb₁ ⊢
 have hC : H2.objs.size = s₂.heap.objs.size + 1 := by rw [← hH2, Heap.size_push]
 have hDC : s₂.heap.objs.size ≠ H2.objs.size := by rw [hC]; exact Nat.ne_of_lt (Nat.lt_succ_self _)
 have below : ∀ b, b < s₂.heap.objs.size → b ≠ H2.objs.size ∧ b ≠ s₂.heap.objs.size := fun b hb => ⟨by rw [hC]; exact Nat.ne_of_lt (Nat.lt_succ_of_lt hb), Nat.ne_of_lt hb⟩
 have old : Keep s₂.heap h₁ := fun b o e => hsb₁.extBut b o (below b (Heap.lt_size e)).1 (Heap.get?_push_of_some _ (hH2 ▸ Heap.get?_push_of_some _ e))
 have hacc : h₁.PlainList s₂.heap.objs.size #[] := ⟨_, hsb₁.extBut _ _ hDC (Heap.get?_push_of_some _ (hH2 ▸ Heap.get?_push_size _ rfl))⟩
 obtain ⟨self, loop⟩ := h₂ s₂.heap.objs.size H2.objs.size h₁ (s₂.toks + ([] : List (Str × Value)).length) _ (Nat.le_refl _) (by rw [hC]; exact Nat.le_succ _) hDC old hns₁ hacc
 have loop' := codeAny_mono (R' := compPost (model P w) A E none Q (.ref s₂.heap.objs.size) H2.objs.size) loop fun r s' hr => by
  obtain ⟨rfl, m, hn, hq⟩ := hr
  exact ⟨m, hn, hq⟩
 exact codeAny_compStart_list loop' (self _ _ loop')
theorem comp_pairs {elt iter c : Expr} {a b : Str} {pa pb tp : Pos} {kk : Nat} {scope : Scope} {cl : List (Str × Addr)} {pos : Pos} {I D C : Addr} {fp wr : List Addr} {n : Nat} {Pt : Nat → Array Value → Prop} {St : Nat → Heap → Prop} {Mid : Nat → Addr → Heap → Prop} {s₂ : Shared} {h₃ : Heap} {t₃ : Nat} {m₃ : Str → Option Value} {R : Result → Shared → Prop}
  (W : WalksT P w A I fp wr n Pt St Mid) (hh : A.handled = none) (hn : n ≤ 100000) (hfp : ∀ b ∈ fp, b < s₂.heap.objs.size) (p : Nat → Bool) (hD : s₂.heap.objs.size ≤ D) (hC : s₂.heap.objs.size ≤ C) (hDC : D ≠ C) (k₃ : Keep s₂.heap h₃) (hns : h₃.Ns C m₃) (hacc : h₃.PlainList D #[]) (hst : St 0 h₃)
  (hpair : ∀ i vals, Pt i vals → ∃ x y, vals = #[x, y])
  (tests : ∀ (i : Nat) (x y : Value) (s : Shared) (m : Str → Option Value) (E' : Value → Shared → Prop), Pt i #[x, y] → s.heap.Ns C m → m a = some x → m b = some y →
   wpAny (model P w) A (PySem.isTrue c (compEnvC scope cl C env) (eval c (compEnvC scope cl C env))) (fun ok s₄ => ok = p i ∧ Keeps s s₄) E' s)
  (elts : ∀ (i : Nat) (x y : Value) (s : Shared) (m : Str → Option Value) (E' : Value → Shared → Prop), Pt i #[x, y] → s.heap.Ns C m → m a = some x → m b = some y →
   wpAny (model P w) A (eval elt (compEnvC scope cl C env)) (fun _ s₄ => Keeps s s₄) E' s)
  (H : ∀ h' t' m' ys, h'.Ns C m' → h'.IsList D ys → ys.size = ((List.range n).filter p).length → (∀ b o, b ∉ wr → s₂.heap.get? b = some o → h'.get? b = some o) → R (.ok .next) { s₂ with heap := h', toks := t' })
  (hk : scope.kind = .function) (ha : scope.names.lookup a = some .local) (hb : scope.names.lookup b = some .local) (hab : a ≠ b) :
  codeAny (model P w) A (.compLoop (.ListComp elt [⟨.Tuple [.Name a pa, .Name b pb] kk tp, iter, [c], 0⟩] scope pos) 0 (.ref I) (.ref D) (compEnvC scope cl C env)) R { s₂ with heap := h₃, toks := t₃ } := by
 have hCf : C ∉ fp := fun h => Nat.lt_irrefl _ (Nat.lt_of_lt_of_le (hfp _ h) hC)
 have hDf : D ∉ fp := fun h => Nat.lt_irrefl _ (Nat.lt_of_lt_of_le (hfp _ h) hD)
 have hCw : C ∉ wr := fun h => hCf (W.sub _ h)
 have hDw : D ∉ wr := fun h => hDf (W.sub _ h)
 refine kct_loop (fun k s' => ∃ i h' tk m' ys, s' = { s₂ with heap := h', toks := tk } ∧ i ≤ n ∧ k = n + 1 - i ∧ St i h' ∧ h'.PlainList D ys ∧ h'.Ns C m' ∧ ys.size = ((List.range i).filter p).length ∧ (∀ b o, b ∉ wr → s₂.heap.get? b = some o → h'.get? b = some o)) ?_ (n + 1)
  (exI5 0 h₃ t₃ m₃ (#[]) (anI8 rfl (Nat.zero_le _) rfl hst hacc hns rfl (fun b o _ e => k₃ b o e)))
 intro k s' zI
 (refine exE5 zI fun i h' tk m' ys zr3 => anE8 zr3 fun ze1 hi ze2 hst' hacc' hns' hys hk' => ?_; clear zI zr3; subst ze1; subst ze2)
 by_cases hlt : i < n
 ·refine W.item i _ _ _ hlt hst' fun T vals h₄ tk₄ hP hT hTup hM hk₄ => ?_
  (refine exE2 (hpair i vals hP) fun x y ze4 => ?_; subst ze4)
  refine W.go _ _ _ i T _ _ _ hM fun h₅ hst₅ hk₅ => ?_
  have hTw := W.apart i T h₄ hM
  have hns₅ : h₅.Ns C m' := (hns'.at' fun o e => hk₄ _ o hCw e).at' fun o e => hk₅ _ o hCw e
  have hT₅ : h₅.IsTuple T #[x, y] := hTup.at fun o e => hk₅ _ o hTw e
  refine kcp_assign (s := { s₂ with heap := h₅, toks := tk₄ }) (env := compEnvC scope cl C env) hh hT₅ (lookup_relabel_local ha) (lookup_relabel_local hb) (by simp [compEnvC, relabel, hk]) hns₅ fun h₆ tk₆ hns₆ hk₆ => ?_
  have hst₆ : St (i + 1) h₆ := W.frame _ _ _ hst₅ fun b hb o e => hk₆ b o (fun z => by rw [show b = C from z] at hb; exact hCf hb) e
  have up₆ : ∀ b o, b ∉ wr → b ≠ C → h'.get? b = some o → h₆.get? b = some o := fun b o hw hc e => hk₆ b o hc (hk₅ b o hw (hk₄ b o hw e))
  refine wpAny_mono (tests i x y _ _ _ hP hns₆ ((if_neg hab).trans (if_pos rfl)) (if_pos rfl)) (fun ok s₇ h₇ => ?_) fun _ _ e => e
  obtain ⟨rfl, h₇, tk₇, rfl, hk₇⟩ := h₇
  have hacc₇ : h₇.PlainList D ys := hacc'.at fun o e => hk₇ _ o (up₆ D o hDw hDC e)
  have hst₇ : St (i + 1) h₇ := W.frame _ _ _ hst₆ fun b _ o e => hk₇ b o e
  have hns₇ := hns₆.keeps hk₇
  have old₇ : ∀ b o, b ∉ wr → s₂.heap.get? b = some o → h₇.get? b = some o := fun b o hw e => hk₇ b o (up₆ b o hw (fun z => Nat.lt_irrefl _ (Nat.lt_of_lt_of_le (Heap.lt_size e) (z ▸ hC))) (hk' b o hw e))
  have hflen : ((List.range (i + 1)).filter p).length = ((List.range i).filter p).length + if p i then 1 else 0 := by
   rw [List.range_succ, List.filter_append, List.length_append]
   cases hp : p i <;> simp [hp]
  cases hp : p i with
  | false =>
   simp only [Bool.false_eq_true, if_false]
   refine ⟨(n + 1 - (i + 1)), ⟨(by lia), (exI5 (i + 1) h₇ tk₇ _ ys (anI8 rfl hlt rfl hst₇ hacc₇ hns₇ ?_ old₇))⟩⟩
   rw [hflen, hp, hys]; rfl
  | true =>
   simp only [if_true]
   refine wpAny_mono (elts i x y _ _ _ hP hns₇ ((if_neg hab).trans (if_pos rfl)) (if_pos rfl)) (fun v s₈ h₈ => ?_) fun _ _ e => e
   obtain ⟨h₈, tk₈, rfl, hk₈⟩ := h₈
   have hle : ((List.range i).filter p).length ≤ i := Nat.le_trans (List.length_filter_le _ _) (by simp)
   refine wpAny_list_append_plain (hsz := by rw [sizeLine_eq]; lia) (hacc₇.at fun o e => hk₈ _ o e) fun h₉ hl₉ hs₉ => ?_
   refine ⟨(n + 1 - (i + 1)), ⟨(by lia), (exI5 (i + 1) h₉ tk₈ _ (ys.push v) (anI8 rfl hlt rfl (W.frame _ _ _ hst₇ fun b hb o e => hs₉.extBut b o (fun z => hDf (z ▸ hb)) (hk₈ b o e)) hl₉ ((hns₇.keeps hk₈).sameBut hs₉ (Ne.symm hDC)) ?_ (fun b o hw e => hs₉.extBut b o (fun z => Nat.lt_irrefl _ (Nat.lt_of_lt_of_le (Heap.lt_size e) (z ▸ hD))) (hk₈ b o (old₇ b o hw e)))))⟩⟩
   rw [hflen, hp, Array.size_push, hys]; rfl
 ·have : i = n := Nat.le_antisymm hi (Nat.not_lt.mp hlt)
  subst this
  refine W.done _ _ _ hst' fun h₄ tk₄ hk₄ => ?_
  exact H h₄ tk₄ m' ys (hns'.at' fun o e => hk₄ _ o hCw e) (hacc'.at fun o e => hk₄ _ o hDw e).isList hys fun b o hw e => hk₄ b o hw (hk' b o hw e)
theorem ne_texts {s : Shared} {a b : Addr} {xs ys : Array Value} {as bs : List Str} {Q : Value → Shared → Prop} (ha : s.heap.IsList a xs) (hb : s.heap.IsList b ys) (has : StrsAre xs.toList as) (hbs : StrsAre ys.toList bs) (hu : A.units < cLine)
  (H : Q (.bool (decide (as ≠ bs))) s) : wpAny (model P w) A (compareOp .NotEq (.ref a) (.ref b)) Q E s := by
 have la : xs.size = as.length := by have := has.length; simpa using this
 have lb : ys.size = bs.length := by have := hbs.length; simpa using this
 by_cases hl : xs.size = ys.size
 ·refine SeqAt.RcNeAt.lists (e := fun j => as.getD j "" == bs.getD j "") ha hb hl hu (fun j h1 h2 => ?_) P w E Q ?_
  ·obtain ⟨t, e1⟩ := has.get j (as[j]'(by lia)) (List.getElem?_eq_getElem (by lia))
   obtain ⟨u, e2⟩ := hbs.get j (bs[j]'(by lia)) (List.getElem?_eq_getElem (by lia))
   rw [Array.getElem?_toList, Array.getElem?_eq_getElem h1] at e1
   rw [Array.getElem?_toList, Array.getElem?_eq_getElem h2] at e2
   rw [Option.some.inj e1, Option.some.inj e2]
   have g1 : as.getD j "" = as[j]'(by lia) := by simp [List.getD, show j < as.length by lia]
   have g2 : bs.getD j "" = bs[j]'(by lia) := by simp [List.getD, show j < bs.length by lia]
   rw [g1, g2]
   exact SeqAt.EqAt.str_str _ _ _ _
  ·have : (!(List.range xs.size).all fun j => as.getD j "" == bs.getD j "") = decide (as ≠ bs) := by
    rw [Bool.eq_iff_iff]
    simp only [Bool.not_eq_true', decide_eq_true_eq]
    rw [← Bool.not_eq_true, List.all_eq_true]
    constructor
    ·intro h e
     subst e
     exact h fun j _ => by simp
    ·intro h hall
     apply h
     apply List.ext_getElem (by lia)
     intro j h1 h2
     have := hall j (List.mem_range.mpr (by lia))
     simpa [List.getD, h1, h2] using this
   rw [this]; exact H
 ·refine SeqAt.RcNeAt.lists_lengths ha hb (by simp [hl]) hu P w E Q ?_
  have hne : as ≠ bs := fun e => hl (by rw [la, lb, e])
  rw [decide_eq_true hne] at H
  exact H
end
end
section
open PySem PySem.W PyProof.Rows
section
variable {w : World} {A : Around} {E : Value → Shared → Prop} {K : Frag} {mg mb : Str → Option Value} {gs : Array GenState} {dr : Drawn} {t : Tok} {os : OsState} {env : Env} {g h : Heap}
theorem callT2 {x : Str} {T : String} {p pos : Pos} {e e' : Expr} {Q : Value → Shared → Prop} (gh : Keep g h) (B : Base w K mg mb g) (ex : nsIn K mainGlobals x = some none) (hv : bootBuiltins x = some (.type T)) (hn : x ≠ "__name__")
  (H : wpAny (model P w) A (eval e env) (fun v s => wpAny (model P w) A (eval e' env) (fun v' s' => wpAny (model P w) A (call (.type T) [v, v']) Q E s') E s) E ⟨h, gs, dr, t, os⟩)
  (h1 : starEach [e, e'] env = (false, eval e env) :: starEach [e'] env := by rfl) (h2 : starEach [e'] env = (false, eval e' env) :: starEach [] env := by rfl)
  (hg : env.globals = mainGlobals := by rfl) (hb : env.builtins = builtinsNs := by rfl) (hk : env.scope.kind = .function := by rfl) (hx : env.kindOf x = some .globalImplicit := by rfl) (hd : (x == ("__debug__" : Str)) = false := by decide) :
  wpAny (model P w) A (eval (.Call (.Name x p) [e, e'] [] pos) env) Q E ⟨h, gs, dr, t, os⟩ :=
 wpAny_Call_NameR (nameB gh B ex hv hn (PyProof.Rows.callWith_type1 (wpAny_items_cons (wpAny_mono H (fun _ _ z => wpAny_items_cons (wpAny_mono z (fun _ _ z => wpAny_items_nil z) fun _ _ z => z) h2) fun _ _ z => z) h1) h1 (by rw [h2]; rfl)) hg hb hk hx hd)
theorem addLists {s : Shared} {a b : Addr} {xs ys : Array Value} {Q : Value → Shared → Prop} (ha : s.heap.IsList a xs) (hb : s.heap.IsList b ys) (hz : xs.size + ys.size ≤ 100000)
  (H : Q (.ref s.heap.objs.size) { s with heap := s.heap.push { cls := .type "list", data := .seq (xs ++ ys) } }) : wpAny (model P w) A (binaryOp .Add (.ref a) (.ref b)) Q E s := by
 obtain ⟨⟨cls, dd, data, sl⟩, ho, hc, n, hd⟩ := id ha
 obtain ⟨⟨cls2, dd2, data2, sl2⟩, ho2, hc2, n2, hd2⟩ := id hb
 simp only at hc hd hc2 hd2
 subst hc hd hc2 hd2
 exact concat_meets ⟨_, ho, rfl⟩ ⟨_, ho2, rfl⟩ noFill_list_add seq_list_add PySem.F.slot_list_add PySem.F.entry_list_add (PySem.F.args_list_add_2 _ _) (list_addW a b xs ys n n2 dd dd2 sl sl2 (by rw [sizeLine_eq]; lia)) (anI3 ho ho2 H)
end
noncomputable def falls (ws : List (List Nat)) (i : Nat) : Bool := !decide (([] :: ws).getD i [] < ws.getD i [])
theorem falls_inOrder : ∀ (l : List Nat) (ws : List (List Nat)), (∀ i, i < ws.length → (l :: ws).getD i [] < ws.getD i []) ↔ inOrder l ws
 | l, [] => ⟨fun _ => trivial, fun _ i h => absurd h (Nat.not_lt_zero _)⟩
 | l, v :: ws => by
  constructor
  ·intro h
   exact ⟨h 0 (Nat.zero_lt_succ _), (falls_inOrder v ws).mp fun i hi => h (i + 1) (Nat.succ_lt_succ hi)⟩
  ·rintro ⟨h1, h2⟩ i hi
   cases i with
   | zero => exact h1
   | succ i => exact (falls_inOrder v ws).mpr h2 i (Nat.lt_of_succ_lt_succ hi)
theorem falls_count (ws : List (List Nat)) : ((List.range ws.length).filter (falls ws)).length = 0 ↔ inOrder [] ws := by
 rw [← falls_inOrder, List.length_eq_zero_iff, List.filter_eq_nil_iff]
 constructor
 ·intro h i hi
  have := h i (List.mem_range.mpr hi)
  simpa [falls] using this
 ·intro h i hi
  have := h i (List.mem_range.mp hi)
  simpa [falls] using this
section
variable {w : World} {A : Around} {E : Value → Shared → Prop} {K : Frag} {mg mb : Str → Option Value} {gs : Array GenState} {dr : Drawn} {t : Tok} {os : OsState} {L : Addr} {g₀ h₀ g h : Heap} {m : Str → Option Value} {ow : List Ent}
theorem law_order (kf : KFM K) (B : Base w K mg mb g) (hu : A.units + 70 < cLine) (hh : A.handled = none) {D : Addr} {rs : Array Value} {ws : List (List Nat)} {r : Bool} {Q : Flow → Shared → Prop}
  (C : Cur RO g₀ h₀ L g h m ow) (hm : m "raw" = some (.ref D)) (hf : m "refused" = some (.bool r)) (hl : g.IsList D rs) (hs : StrsAre rs.toList (ws.map st)) (hz : ws.length ≤ 1000) (hr : r = true ↔ ¬ inOrder [] ws)
  (H : ∀ g' h' t', Keep g g' → Cur RO g₀ h₀ L g' h' m ow → Q .next ⟨h', gs, dr, t', os⟩) :
  wpAny (model P w) (A.deeper (eLaw L)) (exec ((fnOfSt (topSt 11)).body.getD 3 (.Pass default)) (eLaw L)) Q E ⟨h, gs, dr, t, os⟩ := by
 have hsz : rs.size = ws.length := by have := hs.length; simpa using this
 refine wpAny_If (wpAny_isTrue_Compare1 (nmE C hf (wpAny_Compare1 (comp_enter (cl := []) (closureFor_none (by decide)) ?_ (hs := by intro _; rfl)))))
 refine callT2 C.X.gh B (kf.bn "zip" (by decide)) bt_zip (by decide) (wpAny_BinOp (wpAny_List (wpAny_items_cons (kS' fun t₁ t₂ => wpAny_items_nil ⟨by rw [sizeLine_eq]; simp, ?_⟩) (by rfl))))
 have k1 := Keep.push h { cls := .type "list", data := .seq ([Value.str "" t₁] : List Value).toArray }
 have hl1 : (h.push { cls := .type "list", data := .seq ([Value.str "" t₁] : List Value).toArray }).IsList h.objs.size #[Value.str "" t₁] := ⟨_, Heap.get?_push_size _ rfl, rfl, 0, rfl⟩
 have ltD : D < h.objs.size := by obtain ⟨o, ho, _⟩ := hl; exact Heap.lt_size (C.X.gh _ _ ho)
 have sz1 : (h.push { cls := .type "list", data := .seq ([Value.str "" t₁] : List Value).toArray }).objs.size = h.objs.size + 1 := Heap.size_push ..
 show wpAny _ _ _ _ _ ⟨h.push { cls := .type "list", data := .seq ([Value.str "" t₁] : List Value).toArray }, gs, dr, t₂, os⟩
 generalize h.push { cls := .type "list", data := .seq ([Value.str "" t₁] : List Value).toArray } = h1 at k1 hl1 sz1
 (refine Exists.elim (C.kept k1) fun g₁ zr1 => anE3 zr1 fun C₁ kg₁ _ => ?_; clear zr1)
 refine nmE C₁ hm (addLists (s := ⟨h1, gs, dr, t₂, os⟩) hl1 (hl.at fun o e => C₁.X.gh _ _ (kg₁ _ _ e)) (by rw [hsz]; show 1 + _ ≤ _; lia) ?_)
 have k2 := Keep.push h1 { cls := .type "list", data := .seq (#[Value.str "" t₁] ++ rs) }
 have hl2 : (h1.push { cls := .type "list", data := .seq (#[Value.str "" t₁] ++ rs) }).IsList h1.objs.size (#[Value.str "" t₁] ++ rs) := ⟨_, Heap.get?_push_size _ rfl, rfl, 0, rfl⟩
 have lt2 : h1.objs.size < (h1.push { cls := .type "list", data := .seq (#[Value.str "" t₁] ++ rs) }).objs.size := by rw [Heap.size_push]; exact Nat.lt_succ_self _
 show wpAny _ _ _ _ _ ⟨h1.push { cls := .type "list", data := .seq (#[Value.str "" t₁] ++ rs) }, gs, dr, t₂, os⟩
 generalize h1.push { cls := .type "list", data := .seq (#[Value.str "" t₁] ++ rs) } = h2 at k2 hl2 lt2
 (refine Exists.elim (C₁.kept k2) fun g₂ zr2 => anE3 zr2 fun C₂ kg₂ _ => ?_; clear zr2)
 have hlD : h2.IsList D rs := hl.at fun o e => C₂.X.gh _ _ (kg₂ _ _ (kg₁ _ _ e))
 generalize h1.objs.size = D1 at hl2 lt2
 refine nmE C₂ hm (call_zip_2 (s := ⟨h2, gs, dr, t₂, os⟩) hl2 hlD fun h3 hz3 hTI hTO hi1 hi2 sz3 hk3 => wpAny_pyIter_zip (s := ⟨h3, gs, dr, t₂, os⟩) hz3 fun Dc Cc h4 t4 m4 hDc hCc hDC k4 hns4 hacc4 => ?_)
 have ltD2 : D < h2.objs.size := by obtain ⟨o, ho, _⟩ := hlD; exact Heap.lt_size ho
 have ZA := zipApart_new (n := h2.objs.size) lt2 ltD2
 have W := WalksT.zip2 (prog := P) (w := w) (A := A.deeper (eLaw L)) hh _ _ _ _ _ _ _ ZA (#[Value.str "" t₁] ++ rs) rs
 have st3 : (fun (i : Nat) (h : Heap) => IsZip h (h2.objs.size + 4) (h2.objs.size + 2) (h2.objs.size + 3) .none ∧ IsPair h (h2.objs.size + 2) (.ref h2.objs.size) (.ref (h2.objs.size + 1)) ∧ (∃ a b, IsPair h (h2.objs.size + 3) a b) ∧ h.IsListIter h2.objs.size D1 i ∧ h.IsListIter (h2.objs.size + 1) D i ∧ h.IsList D1 (#[Value.str "" t₁] ++ rs) ∧ h.IsList D rs) 0 h3 :=
  (anI7 hz3 hTI ((exI2 _ _ hTO)) hi1 hi2 (hl2.at fun o e => hk3 _ _ e) (hlD.at fun o e => hk3 _ _ e))
 have hk3' : Keep h2 h3 := hk3
 have newW : ∀ b o, h2.get? b = some o → b ∉ [h2.objs.size + 4, h2.objs.size + 3, h2.objs.size, h2.objs.size + 1] := fun b o e hb => by
  have lt := Heap.lt_size e
  have key : ∀ n c : Nat, c < n → c ≠ n + 4 ∧ c ≠ n + 3 ∧ c ≠ n ∧ c ≠ n + 1 := fun n c h => by lia
  have := key _ _ lt
  simp only [List.mem_cons, List.not_mem_nil, or_false] at hb
  rcases hb with z | z | z | z
  ·exact this.1 z
  ·exact this.2.1 z
  ·exact this.2.2.1 z
  ·exact this.2.2.2 z
 have wordAt : ∀ (i : Nat) y, rs[i]? = some y → ∃ t, y = .str (st (ws.getD i [])) t := fun i y e => by
  obtain ⟨wd, hwd⟩ : ∃ wd, ws[i]? = some wd := ⟨ws[i]'(by rw [← hsz]; exact (Array.getElem?_eq_some_iff.mp e).1), List.getElem?_eq_getElem _⟩
  obtain ⟨t', ht⟩ := hs.get i (st wd) (by rw [List.getElem?_map, hwd]; rfl)
  rw [Array.getElem?_toList, e] at ht
  cases ht
  exact ⟨t', by simp [List.getD, hwd]⟩
 have lastAt : ∀ (i : Nat) x, (#[Value.str "" t₁] ++ rs)[i]? = some x → ∃ t, x = .str (st (([] :: ws).getD i [])) t := fun i x e => by
  rw [← Array.getElem?_toList, Array.toList_append] at e
  cases i with
  | zero => cases e; exact ⟨t₁, rfl⟩
  | succ i =>
   refine wordAt i x ?_
   rw [← Array.getElem?_toList]
   exact e
 have st4 := W.frame 0 _ _ st3 fun b _ o e => k4 b o e
 refine ⟨fun Q' E' hq => wpAny_pyIter_zip (s := ⟨h4, gs, dr, t4, os⟩) st4.1 hq, ?_⟩
 refine comp_pairs (s₂ := ⟨h3, gs, dr, t₂, os⟩) W hh (by rw [hsz]; exact Nat.le_trans (Nat.min_le_right _ _) (by lia)) (fun b hb => ?_) (falls ws) hDc hCc hDC k4 hns4 hacc4 st4 (fun i vals zz => by obtain ⟨x, y, _, _, e⟩ := zz; exact ⟨x, y, e⟩) (fun i x y s m' E' hP hns hx hy => ?_) (fun i x y s m' E' hP hns hx hy => ?_) (fun h5 t5 m5 ys hns5 hly hcount hk5 => ?_) (by rfl) (by rfl) (by rfl) (by decide)
 ·have key : ∀ n c : Nat, c = n + 4 ∨ c = n + 2 ∨ c = n + 3 ∨ c = n ∨ c = n + 1 ∨ c < n → c < n + 5 := fun n c h => by lia
  show b < h3.objs.size
  rw [sz3]
  refine key _ _ ?_
  simp only [List.mem_cons, List.not_mem_nil, or_false] at hb
  rcases hb with z | z | z | z | z | z | z
  ·exact .inl z
  ·exact .inr (.inl z)
  ·exact .inr (.inr (.inl z))
  ·exact .inr (.inr (.inr (.inl z)))
  ·exact .inr (.inr (.inr (.inr (.inl z))))
  ·exact .inr (.inr (.inr (.inr (.inr (z ▸ lt2)))))
  ·exact .inr (.inr (.inr (.inr (.inr (z ▸ ltD2)))))
 ·(refine exE2 hP fun x' y' zr3 => anE3 zr3 fun ex ey e => ?_; clear hP zr3)
  cases e
  obtain ⟨tx, rfl⟩ := lastAt i x ex
  obtain ⟨ty, rfl⟩ := wordAt i y ey
  obtain ⟨hp, gs', dr', tk', os'⟩ := s
  refine wpAny_isTrue_Compare1 (ldVarK hns hy (ldVarK hns hx (P.le_str (wpAny_truthy_bool ⟨?_, hp, tk', rfl, fun _ _ e => e⟩))))
  unfold falls
  congr 1
 ·(refine exE2 hP fun x' y' zr4 => anE3 zr4 fun ex ey e => ?_; clear hP zr4)
  cases e
  obtain ⟨hp, gs', dr', tk', os'⟩ := s
  exact ldVarK hns hy ⟨hp, tk', rfl, fun _ _ e => e⟩
 ·refine ⟨rfl, m5, hns5, fun h6 hs6 => ?_⟩
  have hk6 : Keep h2 h6 := fun b o e => hs6.extBut b o (fun z => Nat.lt_irrefl _ (Nat.lt_of_lt_of_le (Heap.lt_size (hk3 b o e)) (z ▸ hCc))) (hk5 b o (newW b o e) (hk3 b o e))
  (refine Exists.elim (C₂.kept hk6) fun g₆ zr5 => anE3 zr5 fun C₆ kg₆ _ => ?_; clear zr5)
  have hl6 : h6.IsList Dc ys := hly.extBut hs6.extBut hDC
  refine wpAny_List (wpAny_items_nil ⟨by rw [sizeLine_eq]; simp, ?_⟩)
  have hl7 : (h6.push { cls := .type "list", data := .seq ([] : List Value).toArray }).IsList Dc ys := hl6.push _
  have hb7 : (h6.push { cls := .type "list", data := .seq ([] : List Value).toArray }).IsList h6.objs.size #[] := ⟨_, Heap.get?_push_size _ rfl, rfl, 0, rfl⟩
  have hn : min (#[Value.str "" t₁] ++ rs).size rs.size = ws.length := by rw [Array.size_append, hsz]; exact Nat.min_eq_right (by show ws.length ≤ 1 + ws.length; lia)
  rw [hn] at hcount
  have fin : ∀ {b : Bool}, b = decide (ys.size ≠ 0) → r = b := fun {b} e => by
   rw [e, Bool.eq_iff_iff, hr, ← falls_count ws, hcount]; simp
  have cmp : ∀ (Q' : Value → Shared → Prop) (E' : Value → Shared → Prop), (∀ b, b = decide (ys.size ≠ 0) → Q' (.bool b) ⟨h6.push { cls := .type "list", data := .seq ([] : List Value).toArray }, gs, dr, t5, os⟩) → wpAny (model P w) (A.deeper (eLaw L)) (compareOp .NotEq (.ref Dc) (.ref h6.objs.size)) Q' E' ⟨h6.push { cls := .type "list", data := .seq ([] : List Value).toArray }, gs, dr, t5, os⟩ := fun Q' E' hq => by
   by_cases hy0 : ys.size = 0
   ·refine SeqAt.RcNeAt.lists (e := fun _ => true) hl7 hb7 (by rw [hy0]; rfl) (by show A.units + 3 < _; lia) (fun j h1 h2 => absurd h2 (Nat.not_lt_zero _)) P w E' Q' ?_
    rw [hy0]
    exact hq _ (by rw [hy0]; rfl)
   ·refine SeqAt.RcNeAt.lists_lengths hl7 hb7 (by simpa using hy0) (by show A.units + 3 < _; lia) P w E' Q' (hq _ (by simpa using hy0))
  (refine Exists.elim (C₆.kept (Keep.push h6 { cls := .type "list", data := .seq ([] : List Value).toArray })) fun g₇ zr6 => anE3 zr6 fun C₇ kg₇ _ => ?_; clear zr6)
  refine cmp _ _ fun b hb => SeqAt.RcNeAt.bool_bool r b P w _ _ (wpAny_truthy_bool ?_)
  rw [fin hb]
  simp only [beq_self_eq_true, Bool.not_true, Bool.false_eq_true, if_false]
  exact wpAny_execs_nil (H g₇ _ _ (kg₁.trans (kg₂.trans (kg₆.trans kg₇))) C₇)
end
end
section
open PySem PySem.W PyProof.Rows
noncomputable def nonempty (v : Value) : Bool := match v with
 | .str x _ => x.cps.toList != []
 | _ => false
theorem filter_strs {vs ys : List Value} {ws : List (List Nat)} (hs : StrsAre vs (ws.map st)) (hF : Paired (fun v y => y = v) (vs.filter nonempty) ys) : StrsAre ys ((ws.filter (· != [])).map st) := by
 have same : ∀ {a b : List Value}, Paired (fun v y => y = v) a b → b = a := fun {a b} h => by
  induction h with
  | nil => rfl
  | cons e _ ih => rw [e, ih]
 rw [same hF]
 clear hF same ys
 induction ws generalizing vs with
 | nil => cases hs; exact .nil
 | cons wd ws ih =>
  rw [List.map_cons] at hs
  cases hs with
  | cons y t hr =>
   have e : nonempty (.str (st wd) t) = (wd != []) := by simp [nonempty, st]
   rw [List.filter_cons, List.filter_cons, e]
   cases h : (wd != []) with
   | true => simp only [if_true]; exact .cons _ t (ih hr)
   | false => rw [if_neg Bool.false_ne_true]; exact ih hr
theorem le_nodup_lt {l : List (List Nat)} (h1 : l.Pairwise (· ≤ ·)) (h2 : l.Nodup) : l.Pairwise (· < ·) :=
 (h1.and h2).imp fun {a b} ⟨x, y⟩ => by
  rcases Classical.em (a < b) with z | z
  ·exact z
  ·exact absurd (List.le_antisymm x z) y
theorem addT_mem {l : List Str} {x y : Str} : y ∈ addT l x → y ∈ l ∨ y = x := by
 unfold addT
 split
 ·exact fun h => .inl h
 ·intro h
  rcases List.mem_append.mp h with h | h
  ·exact .inl h
  ·exact .inr (List.mem_singleton.mp h)
theorem addsT_mem {y : Str} : ∀ {xs l : List Str}, y ∈ addsT l xs → y ∈ l ∨ y ∈ xs
 | [], l, h => .inl h
 | x :: xs, l, h => by
  rcases addsT_mem (xs := xs) (l := addT l x) h with h | h
  ·rcases addT_mem h with h | h
   ·exact .inl h
   ·exact .inr (h ▸ mem0)
  ·exact .inr (.tail _ h)
theorem addsT_len : ∀ (xs l : List Str), (addsT l xs).length ≤ l.length + xs.length
 | [], l => Nat.le_refl _
 | x :: xs, l => by
  have h1 := addsT_len xs (addT l x)
  have h2 := addT_len l x
  show (addsT (addT l x) xs).length ≤ _
  rw [List.length_cons]; lia
section
variable {w : World} {A : Around} {E : Value → Shared → Prop} {K : Frag} {mg mb : Str → Option Value} {gs : Array GenState} {dr : Drawn} {t : Tok} {os : OsState} {L : Addr} {g₀ h₀ g h : Heap} {m : Str → Option Value} {ow : List Ent}
theorem law_words (kf : KFM K) (B : Base w K mg mb g) (hh : A.handled = none) {D : Addr} {rs : Array Value} {ws : List (List Nat)} {Q : Flow → Shared → Prop}
  (C : Cur RO g₀ h₀ L g h m ow) (hm : m "raw" = some (.ref D)) (hl : g.IsList D rs) (hs : StrsAre rs.toList (ws.map st)) (hz : ws.length ≤ 60)
  (H : ∀ g' h' dr' m' t' W vs wsd, Keep g g' → Cur RO g₀ h₀ L g' h' m' ow → m' "words" = some (.ref W) → (∀ y : Str, y ≠ "words" → m' y = m y) → g'.IsList W vs → StrsAre vs.toList (wsd.map st) → inOrder [] wsd → (∀ v ∈ wsd, v ∈ ws) → wsd.length ≤ ws.length → Q .next ⟨h', gs, dr', t', os⟩) :
  wpAny (model P w) (A.deeper (eLaw L)) (exec ((fnOfSt (topSt 11)).body.getD 4 (.Pass default)) (eLaw L)) Q E ⟨h, gs, dr, t, os⟩ := by
 have hsz : rs.size = ws.length := by have := hs.length; simpa using this
 have hlh : h.IsList D rs := hl.at fun o e => C.X.gh _ _ e
 refine wpAny_Assign_Name (callF1 C.X.gh B (kf.bn "sorted" (by decide)) bt_sorted (by decide) (callT1 C.X.gh B (kf.bn "set" (by decide)) bt_set (by decide) (compL (a := D) (items := rs) nonempty (fun v y => y = v) (closureFor_none (by decide)) hh (fun Q' hq => nmE C hm (hq h t (Keep.refl _) hlh)) (by lia) (fun Cc i v s₃ m₃ E' hv hns hmv hk => ?_) (fun Cc i v s₃ m₃ E' hv hpv hns hmv hk => ?_) fun h1 t1 D1 ys k1 hD1 hl1 hF => ?_))) (by rfl)
 ·obtain ⟨h₃, gs₃, dr₃, t₃, os₃⟩ := s₃
  have zh2 : ∃ x tx, v = .str x tx := by
   obtain ⟨wd, hwd⟩ : ∃ wd, ws[i]? = some wd := ⟨ws[i]'(by rw [← hsz]; exact (Array.getElem?_eq_some_iff.mp hv).1), List.getElem?_eq_getElem _⟩
   obtain ⟨t', ht⟩ := hs.get i (st wd) (by rw [List.getElem?_map, hwd]; rfl)
   rw [Array.getElem?_toList, hv] at ht
   cases ht
   exact (exI2 _ _ rfl)
  refine exE2 zh2 fun x tx ze1 => ?_
  clear zh2
  subst ze1
  exact wpAny_tests_one (wpAny_isTrue_Compare1 (ldVarK hns hmv (kS' fun t₅ t₆ => P.ne_str (wpAny_truthy_bool ⟨rfl, h₃, t₆, rfl, fun _ _ e => e⟩))))
 ·obtain ⟨h₃, gs₃, dr₃, t₃, os₃⟩ := s₃
  exact ldVarK hns hmv ⟨rfl, h₃, t₃, rfl, fun _ _ e => e⟩
 ·have hS1 := filter_strs hs hF
  have hlen1 : ((ws.filter (· != [])).map st).length ≤ ws.length := by rw [List.length_map]; exact List.length_filter_le _ _
  refine set_of_list (s := ⟨h1, gs, dr, t1, os⟩) hh hl1 hS1 (by lia) fun h2 t2 k2 hT => ?_
  have hlen2 := addsT_len ((ws.filter (· != [])).map st) []
  have hnd : (addsT [] ((ws.filter (· != [])).map st)).Nodup := by obtain ⟨_, _, _, _, _, _, _, _, _, hnd, _⟩ := hT; exact hnd
  refine sorted_texts (Dp := fun _ => True) (ss := addsT [] ((ws.filter (· != [])).map st)) (fun R HR => ?_) (by simp only [List.length_nil] at hlen2; lia) fun h3 d3 t3 W vs ss' e _ k3 hW hW' hS hp hsort => ?_
  ·exact collect_set hh hT fun h' dr' t' vs ss k hs hp => HR h' dr' t' vs ss trivial k hs hp
  ·(refine Exists.elim (C.kept (h' := h3) (fun b o e => k3 _ _ (k2 _ _ (k1 _ _ e)))) fun g' zr3 => anE3 zr3 fun C' kg' fz => ?_; clear zr3)
   have hWh : h.get? W = none := by
    cases q : h.get? W with
    | none => rfl
    | some o => have := k2 W o (k1 W o q); rw [hW] at this; cases this
   have hWl : g'.IsList W vs := ⟨_, fz W _ hW' hWh, rfl, _, rfl⟩
   have hmem : ∀ v, v ∈ ss' → ∃ wd, v = st wd ∧ wd ∈ ws ∧ wd ≠ [] := fun v hv => by
    rcases addsT_mem (hp.mem_iff.mp hv) with z | z
    ·cases z
    ·obtain ⟨wd, hwd, rfl⟩ := List.mem_map.mp z
     obtain ⟨a, b⟩ := List.mem_filter.mp hwd
     exact ⟨wd, (anI3 rfl a (by simpa using b))⟩
   have hback : ss' = (ss'.map (·.cps.toList)).map st := by
    rw [List.map_map]
    conv => lhs; rw [← List.map_id ss']
    exact List.map_congr_left fun x _ => by cases x; simp [st]
   have hmem' : ∀ v ∈ ss'.map (·.cps.toList), v ∈ ws ∧ v ≠ [] := fun v hv => by
    obtain ⟨x, hx, rfl⟩ := List.mem_map.mp hv
    (refine Exists.elim (hmem x hx) fun wd zr5 => anE3 zr5 fun ze4 a b => ?_; clear zr5; subst ze4)
    have : (st wd).cps.toList = wd := by simp [st]
    rw [this]; exact ⟨a, b⟩
   have hnd' : (ss'.map (·.cps.toList)).Nodup := by
    rw [List.Nodup, List.pairwise_map]
    exact (hp.nodup_iff.mpr hnd).imp fun {a b} hab e => hab (cps_inj e)
   refine stE C' fun h4 t4 m4 e1 e2 C4 => ?_
   refine H g' h4 d3 m4 t4 W vs (ss'.map (·.cps.toList)) kg' C4 e1 e2 hWl (hback ▸ hS) (sorted_order (fun v hv => ?_) (le_nodup_lt (sortedS_le _ hsort) hnd')) (fun v hv => (hmem' v hv).1) ?_
   ·cases v with
    | nil => exact absurd rfl (hmem' _ hv).2
    | cons a l => exact List.nil_lt_cons a l
   ·rw [List.length_map, hp.length_eq]
    simp only [List.length_nil] at hlen2
    lia
end
end
section
open PySem PySem.W PyProof.Rows
section
variable {w : World} {A : Around} {E : Value → Shared → Prop} {K : Frag} {mg mb : Str → Option Value} {gs : Array GenState} {dr : Drawn} {t : Tok} {os : OsState} {L : Addr} {g₀ h₀ g h : Heap} {m : Str → Option Value} {ow : List Ent}
theorem law_dfa (kf : KFM K) (B : Base w K mg mb g) (hroom : A.depth + 3 < recursionLimit) (hu : A.units + 70 < cLine) (hh : A.handled = none) (hfr : A.frames = some []) {W : Addr} {vs : Array Value} {ws : List (List Nat)} {Q : Flow → Shared → Prop}
  (C : Cur RO g₀ h₀ L g h m ow) (hm : m "words" = some (.ref W)) (hl : g.IsList W vs) (hs : StrsAre vs.toList (ws.map st)) (ho : inOrder [] ws) (hn : ws.length ≤ 8) (h8 : ∀ w ∈ ws, w.length ≤ 8)
  (H : ∀ g' h' m' t' d dx T Df F U D, Keep g g' → DfaOk D ws 8 → DfaAt w g' d dx T Df F U D → Cur RO g₀ h₀ L g' h' m' (ow ++ [OutE w U]) → m' "dfa" = some (.ref d) → (∀ y : Str, y ≠ "dfa" → m' y = m y) → Q .next ⟨h', gs, dr, t', os⟩) :
  wpAny (model P w) (A.deeper (eLaw L)) (exec ((fnOfSt (topSt 11)).body.getD 5 (.Pass default)) (eLaw L)) Q E ⟨h, gs, dr, t, os⟩ := by
 have hsz : vs.size = ws.length := by have := hs.length; simpa using this
 have hfrs : ∀ b, frs [eLaw L] b ↔ b = L := fun b => by
  unfold frs
  show b ∈ [L] ↔ _
  simp
 (refine Exists.elim (build_ok ws hn h8) fun r zr1 => anE3 zr1 fun hg hr hok => ?_; clear zr1)
 have C0 : Cur RO g₀ h₀ L g h m (ow ++ []) := C.eq (List.append_nil _).symm
 refine wpAny_Assign_Name (callG1 C.X.gh B kf.gDfaF kf.kDfaF (nmE C hm ⟨B.X.keeps C.X.gh, ?_⟩)) (by rfl)
 refine strings_dfa_spec (A := A.deeper (eLaw L)) (outer := [eLaw L]) (fo := [FrE L m]) (r := r) kf.toKF6 C.X.gh B (by show A.depth + 1 + 2 < _; omega) (by show A.units + 3 + 60 < _; omega) hh (Around.frames_deeper hfr) (fun env me => ?_) (fun e me => ?_) C0.ownL hl hsz (fun i v e => ?_) hg (fun s hs' => ?_) (fun hr' h₁ t₁ e base hfl hb hn hns => ?_)
 ·rw [List.mem_singleton.mp me]
  exact ⟨(by show (fnOfSt (topSt 11)).scope.kind ≠ .module; decide), (exI2 L m ⟨rfl, (List.mem_singleton.mpr rfl)⟩)⟩
 ·rw [List.mem_singleton.mp me]; exact (hfrs L).mpr rfl
 ·obtain ⟨wd, hwd⟩ : ∃ wd, ws[i]? = some wd := ⟨ws[i]'(by rw [← hsz]; exact (Array.getElem?_eq_some_iff.mp e).1), List.getElem?_eq_getElem _⟩
  obtain ⟨t', ht⟩ := hs.get i (st wd) (by rw [List.getElem?_map, hwd]; rfl)
  rw [Array.getElem?_toList, e] at ht
  cases ht
  exact (exI2 wd t' ⟨hwd, rfl⟩)
 ·obtain ⟨a, ha, D⟩ := hok s hs'
  refine ⟨a, ha, fun g' h' t' d dx T Df F U x O' hU I => ?_⟩
  have C' := C0.callL x (fun b v => by obtain ⟨e', me, z⟩ := v; exact ⟨e', me, z⟩) O' fun e' me => ?_
  ·exact stE C' fun h2 t2 m2 e1 e2 C2 => H g' h2 m2 t2 d dx T Df F U _ x.gg D I C2 e1 e2
  ·rcases List.mem_cons.mp me with rfl | me
   ·exact .inl ⟨_, List.mem_singleton.mpr rfl, rfl⟩
   ·rw [List.mem_singleton.mp me]; exact .inr hU
 ·exact absurd ho (hr.mp hr')
end
end
section
open PySem PySem.W PyProof.Rows
section
variable {w : World} {A : Around} {E : Value → Shared → Prop} {R : Result → Shared → Prop} {env : Env} {gs : Array GenState} {dr : Drawn} {os : OsState}
theorem forCell {x : Str} {px : Pos} {c I : Addr} {body orelse : List Stmt} {fp wr : List Addr} {n : Nat} {Pv : Nat → Value → Prop} {St : Nat → Heap → Prop} {V : Addr → Prop} {g₀ h₀ g h : Heap} {m : Str → Option Value} {fe ow : List Ent} {t : Tok} {v₀ : Option Value}
  (W : Walks P w A I fp wr n Pv St) (hfp : ∀ b ∈ fp, b ∈ wr ∨ g.get? b ≠ none) (hlive : ∀ i h, St i h → ∀ b ∈ wr, h.get? b ≠ none) (J : Nat → Heap → (Str → Option Value) → List Ent → Prop)
  (C : Cur V g₀ h₀ env.locals g h m (fe ++ CellE c v₀ :: ow)) (hw : fe.map (·.1) = wr) (hnew : ∀ b ∈ wr, h₀.get? b = none) (hst : St 0 h) (j0 : J 0 g m ow)
  (step : ∀ i g₁ h₁ m₁ ow₁ fe₁ v t₁, i < n → Keep g g₁ → J i g₁ m₁ ow₁ → Pv i v → Cur V g₀ h₀ env.locals g₁ h₁ m₁ (fe₁ ++ CellE c (some v) :: ow₁) →
   wpAny (model P w) A (execs body env) (fun f s₃ => match f with
     | .next | .cont => ∃ g' h' m' ow' v' t', s₃ = ⟨h', gs, dr, t', os⟩ ∧ Keep g₁ g' ∧ Cur V g₀ h₀ env.locals g' h' m' (fe₁ ++ CellE c v' :: ow') ∧ J (i + 1) g' m' ow'
     | .brk => R (.ok .next) s₃
     | .ret v => R (.ok (.ret v)) s₃) (notedBy (model P w) A env fun e s' => R (.error e) s') ⟨h₁, gs, dr, t₁, os⟩)
  (fin : ∀ g₁ h₁ m₁ ow₁ v t₁, Keep g g₁ → J n g₁ m₁ ow₁ → Cur V g₀ h₀ env.locals g₁ h₁ m₁ (CellE c v :: ow₁) →
   wpAny (model P w) A (execs orelse env) (fun f s₃ => R (.ok f) s₃) (notedBy (model P w) A env fun e s' => R (.error e) s') ⟨h₁, gs, dr, t₁, os⟩)
  (hk : env.scope.kind = .function) (hl : env.kindOf x = some .cell) (hc : env.cells.lookup x = some c) :
  codeAny (model P w) A (.forLoop (.Name x px) (.ref I) body orelse env) R ⟨h, gs, dr, t, os⟩ := by
 refine codeAny_forLoop_any (fun k s => ∃ i g₁ h₁ m₁ ow₁ fe₁ v₁ t₁, s = ⟨h₁, gs, dr, t₁, os⟩ ∧ k = n + 1 - i ∧ i ≤ n ∧ Keep g g₁ ∧ J i g₁ m₁ ow₁ ∧ Cur V g₀ h₀ env.locals g₁ h₁ m₁ (fe₁ ++ CellE c v₁ :: ow₁) ∧ fe₁.map (·.1) = wr ∧ St i h₁)
  ?_ (n + 1) (exI8 0 g h m ow fe v₀ t (anI8 rfl rfl (Nat.zero_le _) (Keep.refl _) j0 C hw hst))
 intro k s zI
 (refine exE8 zI fun i g₁ h₁ m₁ ow₁ fe₁ v₁ t₁ zr3 => anE8 zr3 fun ze1 ze2 hi kg hj C₁ hw₁ hst₁ => ?_; clear zI zr3; subst ze1; subst ze2)
 have frame : ∀ {j : Nat} {ha hb : Heap}, Keep g ha → Keep g hb → St j ha → (∀ b ∈ wr, hb.get? b = ha.get? b) → St j hb := fun {j ha hb} ka kb hs e => W.frame _ _ _ hs fun b mb o eo => by
  rcases hfp b mb with q | q
  ·rw [e b q]; exact eo
  ·cases z : g.get? b with
   | none => exact absurd z q
   | some o' =>
    have := ka b o' z
    rw [eo] at this; cases this
    exact kb b o z
 by_cases hlt : i < n
 ·refine W.item i _ _ _ hlt hst₁ fun v h₂ t₂ hv st₂ k₂ => ?_
  (refine Exists.elim (C₁.change (h' := h₂) (fun b o nb e => k₂ b o (by rw [← hw₁]; exact nb) e) fun b mb => hlive _ _ st₂ b (by rw [← hw₁]; exact mb)) fun fe₂ zr4 => anE3 zr4 fun hw₂ hx₂ C₂ => ?_; clear zr4)
  refine wpAny_pure ?_
  have ne : ∀ b ∈ wr, b ≠ c := fun b mb z => by
   rw [← hw₁, ← hw₂] at mb
   have nd := C₂.O.nd
   rw [List.map_append, List.nodup_append] at nd
   exact nd.2.2 b mb c mem0 z
  refine wpAny_assign_Name (wpAny_storeName_cell (s := ⟨h₂, gs, dr, t₂, os⟩) hk hl hc (C₂.get (CellE c v₁) (memR mem0)) fun h₃ hv₃ hs₃ => ?_)
  have C₃ : Cur V g₀ h₀ env.locals g₁ h₃ m₁ (fe₂ ++ CellE c (some v) :: ow₁) := C₂.upd hs₃ (by obtain ⟨o, ho, hd⟩ := hv₃; exact ⟨o, ho, fun h'' _ e => ⟨o, e, hd⟩⟩)
  have st₃ : St (i + 1) h₃ := frame (kg.trans C₂.X.gh) (kg.trans C₃.X.gh) st₂ fun b mb => hs₃.2 b (ne b mb)
  refine wpAny_mono (step i g₁ h₃ m₁ ow₁ fe₂ v _ hlt kg hj hv C₃) (fun f s₃ h₃' => ?_) fun _ _ x => x
  have nx : (∃ g' h' m' ow' v' t', s₃ = ⟨h', gs, dr, t', os⟩ ∧ Keep g₁ g' ∧ Cur V g₀ h₀ env.locals g' h' m' (fe₂ ++ CellE c v' :: ow') ∧ J (i + 1) g' m' ow') →
    ∃ k, k < n + 1 - i ∧ ∃ i g₁ h₁ m₁ ow₁ fe₁ v₁ t₁, s₃ = ⟨h₁, gs, dr, t₁, os⟩ ∧ k = n + 1 - i ∧ i ≤ n ∧ Keep g g₁ ∧ J i g₁ m₁ ow₁ ∧ Cur V g₀ h₀ env.locals g₁ h₁ m₁ (fe₁ ++ CellE c v₁ :: ow₁) ∧ fe₁.map (·.1) = wr ∧ St i h₁ := by
   intro zI
   (refine exE6 zI fun g' h' m' ow' v' t' zr5 => anE4 zr5 fun e k' C' hj' => ?_; clear zI zr5)
   refine ⟨(n + 1 - (i + 1)), ⟨(by omega), (exI8 (i + 1) g' h' m' ow' fe₂ v' t' (anI8 e rfl hlt (kg.trans k') hj' C' (hw₂.trans hw₁) (frame (kg.trans C₃.X.gh) ((kg.trans k').trans C'.X.gh) st₃ fun b mb => ?_)))⟩⟩
   have mb' := mb
   rw [← hw₁, ← hw₂] at mb
   obtain ⟨e', me', rfl⟩ := List.mem_map.mp mb
   have h1 := C'.get e' (memL me')
   have h2 := C₃.get e' (memL me')
   rw [hx₂ e' me'] at h1 h2
   exact h1.trans h2.symm
  cases f with
  | next => exact nx h₃'
  | cont => exact nx h₃'
  | brk => exact h₃'
  | ret v => exact h₃'
 ·have : n = i := Nat.le_antisymm (Nat.not_lt.mp hlt) hi
  subst this
  refine W.done _ _ _ hst₁ fun h₂ t₂ k₂ => ?_
  exact fin g₁ h₂ m₁ ow₁ v₁ t₂ kg hj (C₁.gone (fun b o nb e => k₂ b o (by rw [← hw₁]; exact nb) e) fun b mb => hnew b (by rw [← hw₁]; exact mb))
structure FeedC (w : World) (A : Around) (I : Addr) (n : Nat) (g h₀ : Heap) (fe : List Ent) (Pv : Nat → Value → Prop) (h : Heap) : Prop where
 walk : ∃ fp St, Walks P w A I fp (fe.map (·.1)) n Pv St ∧ (∀ b ∈ fp, b ∈ fe.map (·.1) ∨ g.get? b ≠ none) ∧ (∀ i h, St i h → ∀ b ∈ fe.map (·.1), h.get? b ≠ none) ∧ St 0 h
 new : ∀ b ∈ fe.map (·.1), h₀.get? b = none
variable {V : Addr → Prop} {g₀ h₀ g h : Heap} {m : Str → Option Value} {ow : List Ent} {t : Tok} {target : Expr} {body orelse : List Stmt}
theorem listC {l : Addr} {items : Array Value} {Q : Value → Shared → Prop} (hh : A.handled = none) (C : Cur V g₀ h₀ env.locals g h m ow) (hl : g.IsList l items)
  (H : ∀ I h' fe, Cur V g₀ h₀ env.locals g h' m (fe ++ ow) → FeedC w A I items.size g h₀ fe (fun i v => items[i]? = some v) h' → Q (.ref I) ⟨h', gs, dr, t, os⟩) :
  wpAny (model P w) A (pyIter (.ref l)) Q E ⟨h, gs, dr, t, os⟩ := by
 have hl' : h.IsList l items := hl.at fun o e => C.X.gh _ _ e
 refine wpAny_pyIter_list (s := ⟨h, gs, dr, t, os⟩) hl' ?_
 obtain ⟨C', nw⟩ := C.alloc (o := { cls := .type "list_iterator", data := .fields #[.ref l, .int 0 0] }) (Pr := fun _ => True) rfl fun _ _ _ => trivial
 have hg : g.get? l ≠ none := by obtain ⟨o, q, _⟩ := hl; rw [q]; exact Option.some_ne_none _
 have hne : l ≠ h.objs.size := fun z => by
  obtain ⟨o, q, _⟩ := hl'
  rw [z, size_none] at q; cases q
 refine H h.objs.size _ [(h.objs.size, fun _ => True)] C' ⟨⟨_, _, Walks.list hh _ l hne items, fun b mb => ?_, fun i h st b mb => ?_, ⟨⟨_, Heap.get?_push_size h rfl, rfl, rfl⟩, hl.at fun o e => C'.X.gh _ _ e⟩⟩, fun b mb => ?_⟩
 ·rcases List.mem_cons.mp mb with q | q
  ·exact .inl (List.mem_singleton.mpr q)
  ·rw [List.mem_singleton.mp q]; exact .inr hg
 ·obtain ⟨⟨o, q, _⟩, _⟩ := st
  rw [show b = _ from List.mem_singleton.mp mb, q]; exact Option.some_ne_none _
 ·rw [show b = _ from List.mem_singleton.mp mb]; exact nw
theorem rangeC {n : Nat} {tn : Tok} {Q : Value → Shared → Prop} (hn : n ≤ 100000) (hh : A.handled = none) (C : Cur V g₀ h₀ env.locals g h m ow)
  (H : ∀ I g' h' fe t', Keep g g' → Cur V g₀ h₀ env.locals g' h' m (fe ++ ow) → FeedC w A I n g' h₀ fe (fun i v => ∃ t, v = .int (0 + (i : Nat) * 1) t) h' → Q (.ref I) ⟨h', gs, dr, t', os⟩) :
  wpAny (model P w) A (call (.type "range") [.int n tn]) (fun v s => wpAny (model P w) A (pyIter v) Q E s) E ⟨h, gs, dr, t, os⟩ := by
 refine call_range_1 (s := ⟨h, gs, dr, t, os⟩) ?_
 (refine Exists.elim (C.kept (Keep.push h { cls := .type "range", data := .fields #[.int 0 t, .int n tn, .int 1 (t + 1)] })) fun g₁ zr6 => anE3 zr6 fun C₁ kg _ => ?_; clear zr6)
 have hr : IsRange (h.push { cls := .type "range", data := .fields #[.int 0 t, .int n tn, .int 1 (t + 1)] }) h.objs.size 0 n 1 t tn (t + 1) := Heap.get?_push_size _ rfl
 refine wpAny_pyIter_range (s := ⟨_, gs, dr, _, os⟩) hr (range_small n hn) ?_
 rw [rangeSize_nat]
 obtain ⟨C₂, nw⟩ := C₁.alloc (o := { cls := .type "range_iterator", data := .fields #[rawInt 0, rawInt n, rawInt 1] }) (Pr := fun _ => True) rfl fun _ _ _ => trivial
 refine H _ g₁ _ [(_, fun _ => True)] _ kg C₂ ⟨(exI2 _ _ (anI4 (Walks.range hh _ 0 1 n) (fun b mb => .inl mb) (fun i h st b mb => ?_) ?_)), fun b mb => ?_⟩
 ·rw [show b = _ from List.mem_singleton.mp mb]
  have st' : IsRangeIter h _ _ _ _ := st
  rw [st']; exact Option.some_ne_none _
 ·have := Heap.get?_push_size (h.push { cls := .type "range", data := .fields #[.int 0 t, .int n tn, .int 1 (t + 1)] }) (o := { cls := .type "range_iterator", data := .fields #[rawInt 0, rawInt n, rawInt 1] }) rfl
  simpa using this
 ·rw [show b = _ from List.mem_singleton.mp mb]; exact nw
end
end
section
open PySem PySem.W PyProof.Rows
noncomputable abbrev lawSt (i : Nat) : Stmt := (fnOfSt (topSt 11)).body.getD i (.Pass default)
noncomputable def lawSigns : List Nat := [0, 96, 97, 98, 99, 100, 126]
theorem stCh (l : List Nat) (c : Nat) : st l ++ (⟨#[c]⟩ : Str) = st (l ++ [c]) := by
 show (⟨_⟩ : Str) = ⟨_⟩
 congr 1
 apply Array.toList_inj.mp
 simp [st]
section
variable {w : World} {A : Around} {E : Value → Shared → Prop} {K : Frag} {mg mb : Str → Option Value} {gs : Array GenState} {dr : Drawn} {t : Tok} {os : OsState} {L : Addr} {g₀ h₀ g h : Heap} {m : Str → Option Value} {rest : List Ent}
theorem law_number {sa : Addr} {vs : List Value} {ns : List Int} {ow : List Ent} {Q : Flow → Shared → Prop} (C : Cur RO g₀ h₀ L g h m ow) (hm : m "script" = some (.ref sa)) (hl : g.IsList sa vs.toArray) (hi : IntsAre vs ns) (hn : ns.length ≤ 1000)
  (H : ∀ h' m' t' n tn, Cur RO g₀ h₀ L g h' m' ow → m' "number" = some (.int n tn) → (∀ y : Str, y ≠ "number" → m' y = m y) → Q .next ⟨h', gs, dr, t', os⟩) :
  wpAny (model P w) (A.deeper (eLaw L)) (exec (lawSt 6) (eLaw L)) Q E ⟨h, gs, dr, t, os⟩ := by
 have hlen : vs.length = ns.length := hi.length
 have hlh : h.IsList sa vs.toArray := hl.at fun o e => C.X.gh _ _ e
 refine wpAny_Assign_Name (wpAny_IfExp (wpAny_isTrue_value (nmE C hm (wpAny_truthy_list hlh (by simp; lia) ?_)) (by rfl))) (by rfl)
 cases hvs : vs with
 | nil =>
  simp only [List.isEmpty_toArray, List.isEmpty_nil, Bool.not_true, Bool.false_eq_true, if_false]
  exact kI' fun t1 t2 => stE C fun h' t' m' e1 e2 C' => H h' m' t' 0 t1 C' e1 e2
 | cons v r =>
  (refine exE2 (intsAt hi 0 v (by rw [hvs]; rfl)) fun n tn zr2 => anE2 zr2 fun _ ze1 => ?_; clear zr2; subst ze1)
  simp only [List.isEmpty_toArray, List.isEmpty_cons, Bool.not_false, if_true]
  refine wpAny_Subscript_Constant_late (nmE C hm (kI' fun t1 t2 => ⟨"list", "list.__getitem__", slot_list_getitem.lookup, hlh.typeIs, wpAny_getItem_list hlh (Int.le_refl 0) (by decide) (x := .int n tn) (by rw [hvs]; rfl) ?_⟩))
  exact stE C fun h' t' m' e1 e2 C' => H h' m' t' n tn C' e1 e2
theorem law_signs (kf : KFM K) (B : Base w K mg mb g) {ow : List Ent} {Q : Flow → Shared → Prop} (C : Cur RO g₀ h₀ L g h m ow)
  (H : ∀ g' h' m' t' S sv, Keep g g' → Cur RO g₀ h₀ L g' h' m' ow → m' "signs" = some (.ref S) → (∀ y : Str, y ≠ "signs" → m' y = m y) → g'.IsList S sv → StrsAre sv.toList (lawSigns.map ch) → Q .next ⟨h', gs, dr, t', os⟩) :
  wpAny (model P w) (A.deeper (eLaw L)) (exec (lawSt 7) (eLaw L)) Q E ⟨h, gs, dr, t, os⟩ := by
 refine wpAny_Assign_Name (wpAny_List (wpAny_items_cons (callF1 C.X.gh B (kf.bn "chr" (by decide)) bt_chr (by decide) (kI' fun t1 t2 => chr_of_range (by decide) (by decide) ?_)) (by rfl))) (by rfl)
 refine wpAny_items_cons (kS' fun a1 u1 => wpAny_items_cons (kS' fun a2 u2 => wpAny_items_cons (kS' fun a3 u3 => wpAny_items_cons (kS' fun a4 u4 => wpAny_items_cons (kS' fun a5 u5 => wpAny_items_cons (kS' fun a6 u6 => wpAny_items_nil ⟨by rw [sizeLine_eq]; simp, ?_⟩) (by rfl)) (by rfl)) (by rfl)) (by rfl)) (by rfl)) (by rfl)
 have hsv : StrsAre [Value.str ⟨#[(0 : Int).toNat]⟩ t2, .str "`" a1, .str "a" a2, .str "b" a3, .str "c" a4, .str "d" a5, .str "~" a6] (lawSigns.map ch) := .cons _ _ (.cons _ _ (.cons _ _ (.cons _ _ (.cons _ _ (.cons _ _ (.cons _ _ .nil))))))
 generalize [Value.str ⟨#[(0 : Int).toNat]⟩ t2, .str "`" a1, .str "a" a2, .str "b" a3, .str "c" a4, .str "d" a5, .str "~" a6] = sv at hsv
 (refine Exists.elim (C.kept (Keep.push h { cls := .type "list", data := .seq sv.toArray })) fun g' zr3 => anE3 zr3 fun C' kg' fz => ?_; clear zr3)
 refine stE C' fun h2 t2 m2 e1 e2 C2 => H g' h2 m2 t2 h.objs.size sv.toArray kg' C2 e1 e2 ⟨_, fz _ _ (Heap.get?_push_size _ rfl) (size_none h), rfl, 0, rfl⟩ (by simpa using hsv)
end
end
section
open PySem PySem.W PyProof.Rows
section
variable {w : World} {A : Around} {E : Value → Shared → Prop} {K : Frag} {mg mb : Str → Option Value} {gs : Array GenState} {dr : Drawn} {t : Tok} {os : OsState} {L : Addr} {g₀ h₀ g h : Heap} {m : Str → Option Value} {rest : List Ent}
theorem law_empty {vw vt : Option Value} {Q : Flow → Shared → Prop} (C : Cur RO g₀ h₀ L g h m (CellE (L + 1) vw :: CellE (L + 1 + 1) vt :: rest))
  (H : ∀ h' t' tx, Cur RO g₀ h₀ L g h' m (CellE (L + 1) vw :: CellE (L + 1 + 1) (some (.str (st []) tx)) :: rest) → Q .next ⟨h', gs, dr, t', os⟩) :
  wpAny (model P w) (A.deeper (eLaw L)) (exec (lawSt 8) (eLaw L)) Q E ⟨h, gs, dr, t, os⟩ :=
 wpAny_Assign_Name (kS' fun t1 t2 => stC' (l := [CellE (L + 1) vw]) C (law_text L) fun h' C' => H h' t2 t1 C') (by rfl)
theorem law_size {n : Int} {tn : Tok} {ow : List Ent} {Q : Flow → Shared → Prop} (C : Cur RO g₀ h₀ L g h m ow) (hm : m "number" = some (.int n tn))
  (H : ∀ h' m' t' k tk, k < 6 → Cur RO g₀ h₀ L g h' m' ow → m' "size" = some (.int (k : Nat) tk) → (∀ y : Str, y ≠ "size" → m' y = m y) → Q .next ⟨h', gs, dr, t', os⟩) :
  wpAny (model P w) (A.deeper (eLaw L)) (exec (lawSt 9) (eLaw L)) Q E ⟨h, gs, dr, t, os⟩ := by
 obtain ⟨k, hk⟩ : ∃ k : Nat, n.fmod 6 = k := ⟨(n.fmod 6).toNat, (Int.toNat_of_nonneg (Int.fmod_nonneg_of_pos _ (by decide))).symm⟩
 have hk6 : k < 6 := by have := Int.fmod_lt_of_pos n (b := 6) (by decide); lia
 refine wpAny_Assign_Name (wpAny_BinOp (nmE C hm (kI' fun t1 t2 => PyProof.Rows.mod_int (by decide) ?_))) (by rfl)
 rw [hk]
 exact stE C fun h' t' m' e1 e2 C' => H h' m' t' k _ hk6 C' e1 e2
theorem law_room (B : Base w K mg mb g) (sr : g.NoSeer) (hroom : A.depth + 2 + Builtin.pylongFrames < recursionLimit) (hfr : A.frames = some []) (s : Shared) (k : Keep g s.heap) : PylongRoom (model P w) (A.deeper (eLaw L)) s :=
 PylongRoom.of (B.lim.keeps k) (by show A.depth + 1 + _ < _; lia) (SeerAt.of (sr.keeps k) rfl (Around.frames_deeper hfr) rfl rfl rfl rfl)
theorem law_number2 (B : Base w K mg mb g) (sr : g.NoSeer) (hroom : A.depth + 2 + Builtin.pylongFrames < recursionLimit) (hfr : A.frames = some []) {n : Int} {tn : Tok} {ow : List Ent} {Q : Flow → Shared → Prop} (C : Cur RO g₀ h₀ L g h m ow) (hm : m "number" = some (.int n tn))
  (H : ∀ h' m' t' n tn, Cur RO g₀ h₀ L g h' m' ow → m' "number" = some (.int n tn) → (∀ y : Str, y ≠ "number" → m' y = m y) → Q .next ⟨h', gs, dr, t', os⟩) :
  wpAny (model P w) (A.deeper (eLaw L)) (exec (lawSt 10) (eLaw L)) Q E ⟨h, gs, dr, t, os⟩ :=
 wpAny_Assign_Name (wpAny_BinOp (nmE C hm (kI' fun t1 t2 => PyProof.Rows.floordiv_int (by decide) (stE C fun h' t' m' e1 e2 C' => H h' m' t' _ _ C' e1 e2) (.inr (law_room B sr hroom hfr _ C.X.gh))))) (by rfl)
theorem law_made (kf : KFM K) (B : Base w K mg mb g) (sr : g.NoSeer) (hroom : A.depth + 2 + Builtin.pylongFrames < recursionLimit) (hh : A.handled = none) (hfr : A.frames = some []) {n : Int} {tn tk tx : Tok} {k : Nat} {S : Addr} {sv : Array Value} {vw vp : Option Value} {Q : Flow → Shared → Prop}
  (C : Cur RO g₀ h₀ L g h m (CellE (L + 1) vw :: CellE (L + 1 + 1) (some (.str (st []) tx)) :: CellE (L + 1 + 1 + 1) vp :: rest)) (hn : m "number" = some (.int n tn)) (hk : m "size" = some (.int (k : Nat) tk)) (hk6 : k < 6)
  (hS : m "signs" = some (.ref S)) (hl : g.IsList S sv) (hsv : StrsAre sv.toList (lawSigns.map ch))
  (H : ∀ g' h' m' t' x tx vp, Keep g g' → x.length ≤ 5 → (∀ c ∈ x, c ≤ 126) → Cur RO g₀ h₀ L g' h' m' (CellE (L + 1) vw :: CellE (L + 1 + 1) (some (.str (st x) tx)) :: CellE (L + 1 + 1 + 1) vp :: rest) → (∀ y : Str, y ≠ "number" → m' y = m y) → Q .next ⟨h', gs, dr, t', os⟩) :
  wpAny (model P w) (A.deeper (eLaw L)) (exec (lawSt 11) (eLaw L)) Q E ⟨h, gs, dr, t, os⟩ := by
 refine wpAny_For (callT1 C.X.gh B (kf.bn "range" (by decide)) bt_range (by decide) (nmE C hk (rangeC (A := A.deeper (eLaw L)) (env := eLaw L) (by lia) hh C fun it g₁ h₁ fe t₁ k₁ C₁ FC => ?_)))
 obtain ⟨⟨fp, St, W, hfp, hlive, hst⟩, hnew⟩ := FC
 have C₁' : Cur RO g₀ h₀ (eLaw L).locals g₁ h₁ m (fe ++ CellE (L + 1 + 1 + 1) vp :: (CellE (L + 1) vw :: CellE (L + 1 + 1) (some (.str (st []) tx)) :: rest)) := C₁.perm (List.Perm.append_left fe (by
  show List.Perm ([CellE (L + 1) vw, CellE (L + 1 + 1) (some (.str (st []) tx))] ++ CellE (L + 1 + 1 + 1) vp :: rest) _
  exact List.perm_middle))
 have back : ∀ {g h : Heap} {m : Str → Option Value} {v : Option Value} {x : List Nat} {tx : Tok}, Cur RO g₀ h₀ (eLaw L).locals g h m (CellE (L + 1 + 1 + 1) v :: (CellE (L + 1) vw :: CellE (L + 1 + 1) (some (.str (st x) tx)) :: rest)) → Cur RO g₀ h₀ L g h m (CellE (L + 1) vw :: CellE (L + 1 + 1) (some (.str (st x) tx)) :: CellE (L + 1 + 1 + 1) v :: rest) := fun {g h m v x tx} C => C.perm (by
  exact (List.perm_middle (l₁ := [CellE (L + 1) vw, CellE (L + 1 + 1) (some (.str (st x) tx))]) (a := CellE (L + 1 + 1 + 1) v) (l₂ := rest)).symm)
 refine forCell W hfp hlive (fun i g' m' ow => ∃ x tx, ow = CellE (L + 1) vw :: CellE (L + 1 + 1) (some (.str (st x) tx)) :: rest ∧ x.length = i ∧ (∀ c ∈ x, c ≤ 126) ∧ (∀ y : Str, y ≠ "number" → m' y = m y) ∧ ∃ n tn, m' "number" = some (.int n tn)) C₁' rfl hnew hst
  (exI2 ([]) tx (anI5 rfl rfl (fun _ h => absurd h List.not_mem_nil) (fun _ _ => rfl) (exI2 n tn hn))) (fun i g₂ h₂ m₂ ow₂ fe₂ v t₂ hi k₂ hj hp C₂ => ?_) (fun g₂ h₂ m₂ ow₂ v t₂ k₂ hj C₂ => ?_) (by rfl) (by rfl) (law_place L)
 ·(refine exE2 hj fun x tx₂ zr2 => anE5 zr2 fun ze1 hxl hx hmo zr3 => exE2 zr3 fun n₂ tn₂ hn₂ => ?_; clear hj zr3 zr2; subst ze1)
  have hl₂ : h₂.IsList S sv := hl.at fun o e => C₂.X.gh _ _ (k₂ _ _ (k₁ _ _ e))
  have kg₂ : Keep g h₂ := (k₁.trans k₂).trans C₂.X.gh
  obtain ⟨j, hj⟩ : ∃ j : Nat, n₂.fmod 7 = j := ⟨(n₂.fmod 7).toNat, (Int.toNat_of_nonneg (Int.fmod_nonneg_of_pos _ (by decide))).symm⟩
  have hj7 : j < 7 := by have := Int.fmod_lt_of_pos n₂ (b := 7) (by decide); lia
  obtain ⟨cc, hcc, hle⟩ : ∃ cc, lawSigns[j]? = some cc ∧ cc ≤ 126 := by
   have h1 : lawSigns[j]? = some (lawSigns[j]'(by show j < 7; exact hj7)) := List.getElem?_eq_getElem _
   refine ⟨_, h1, ?_⟩
   have hall : ∀ c ∈ lawSigns, c ≤ 126 := by decide
   exact hall _ (List.getElem_mem _)
  obtain ⟨tc, htc⟩ := hsv.get j (ch cc) (by rw [List.getElem?_map, hcc]; rfl)
  have C₂' : Cur RO g₀ h₀ (eLaw L).locals g₂ h₂ m₂ ((fe₂ ++ [CellE (L + 1 + 1 + 1) (some v), CellE (L + 1) vw]) ++ CellE (L + 1 + 1) (some (.str (st x) tx₂)) :: rest) := C₂.eq (by simp)
  refine wpAny_execs_cons (wpAny_Assign_Name (wpAny_BinOp (nmC C₂' (memR mem0) (law_text L) (subscriptB (nmE C₂' ((hmo _ (by decide)).trans hS) (wpAny_BinOp (nmE C₂' hn₂ (kI' fun t3 t4 => PyProof.Rows.mod_int (by decide) ⟨"list", "list.__getitem__", slot_list_getitem.lookup, hl₂.typeIs, ?_⟩))))))) (by rfl))
  refine wpAny_getItem_list (s := ⟨h₂, gs, dr, _, os⟩) hl₂ (Int.fmod_nonneg_of_pos _ (by decide)) (by have := Int.fmod_lt_of_pos n₂ (b := 7) (by decide); lia) (x := .str (ch cc) tc) (by rw [hj, Int.toNat_natCast, ← Array.getElem?_toList]; exact htc) ?_
  refine PyProof.Rows.add_str (fun t5 t6 => stC' C₂' (law_text L) fun h₃ C₃ => ?_) ?_
  ·refine wpAny_execs_cons (wpAny_Assign_Name (wpAny_BinOp (nmE C₃ hn₂ (kI' fun t7 t8 => PyProof.Rows.floordiv_int (by decide) (stE C₃ fun h₄ t₄ m₄ e1 e2 C₄ => wpAny_execs_nil ?_) (.inr (law_room B sr hroom hfr _ ((k₁.trans k₂).trans C₃.X.gh)))))) (by rfl))
   refine ⟨g₂, h₄, m₄, CellE (L + 1) vw :: CellE (L + 1 + 1) (some (.str (st (x ++ [cc])) t5)) :: rest, some v, t₄, rfl, Keep.refl _, C₄.eq ?_, x ++ [cc], t5, rfl, by simp [hxl], fun c hc => ?_, fun y hy => (e2 y hy).trans (hmo y hy), _, _, e1⟩
   ·rw [← stCh]; simp [ch]
   ·rcases List.mem_append.mp hc with z | z
    ·exact hx c z
    ·rw [List.mem_singleton.mp z]; exact hle
  ·have : (st x).length = x.length := by simp [st, Str.length]
   rw [this, sizeLine_eq]
   show x.length + 1 ≤ _
   lia
 ·(refine exE2 hj fun x tx₂ zr5 => anE5 zr5 fun ze4 hxl hx hmo _ => ?_; clear hj zr5; subst ze4)
  refine wpAny_execs_nil ?_
  exact H g₂ h₂ m₂ t₂ x tx₂ v (k₁.trans k₂) (by lia) hx (back C₂) hmo
end
end
section
open PySem PySem.W PyProof.Rows
section
variable {w : World} {A : Around} {E : Value → Shared → Prop} {K : Frag} {g h : Heap} {gs : Array GenState} {dr : Drawn} {t : Tok} {os : OsState} {env : Env} {g₀ h₀ : Heap} {V : Addr → Prop} {m : Str → Option Value} {ow : List Ent}
theorem methE0 {x name qual : Str} {xp apos pos : Pos} {d C dx f fc : Addr} {st : Stmt} {dV : Value} {es n} {Q : Value → Shared → Prop}
  (c : Cur V g₀ h₀ env.locals g h m ow) (X : K.In g) (hv : m x = some (.ref d)) (I : Inst g d C dx es n) (M : Meth K C name qual f fc st dV) (hl : getL name es = some none)
  (H : codeAny (model P w) A (.call (.ref f) ⟨[.ref d], []⟩) (back Q E) ⟨h, gs, dr, t, os⟩)
  (hk : env.scope.kind = .function := by rfl) (hx : env.kindOf x = some .local := by rfl) (hd : (x == ("__debug__" : Str)) = false := by decide)
  (he : eval (.Call (.Attribute (.Name x xp) name apos) [] [] pos) env = (do
   let ov ← eval (.Name x xp) env
   standAt apos.atName
   let (f, first) ← holding [ov] (getMethod ov name (do return (← importBound (.Name x xp) env).getD true))
   callWith pos f first (backTo pos (starEach [] env)) (backToKw pos (keywordEach [] env))) := by with_unfolding_all rfl) :
  wpAny (model P w) A (eval (.Call (.Attribute (.Name x xp) name apos) [] [] pos) env) Q E ⟨h, gs, dr, t, os⟩ := by
 refine methodCall_KW (nmE c hv ?_ hk hx hd) he
 exact method_fn (s := ⟨h, gs, dr, t, os⟩) (X.keeps c.X.gh) (I.keeps c.X.gh).instAt (plainGet_of M.pg).1 (plainGet_of M.pg).2 M.fi (beq_iff_eq.mp M.isf)
  (by show (lookIn name (dictOf es n)).map _ = _; rw [lookIn_dict, hl]; rfl) (callWith_K0 (s := ⟨h, gs, dr, t, os⟩) (X.keeps c.X.gh) M.kp (wpAny_call H))
theorem methE1 {x name qual : Str} {xp apos pos : Pos} {e : Expr} {d C dx f fc : Addr} {st : Stmt} {dV : Value} {es n} {Q : Value → Shared → Prop}
  (c : Cur V g₀ h₀ env.locals g h m ow) (X : K.In g) (hv : m x = some (.ref d)) (I : Inst g d C dx es n) (M : Meth K C name qual f fc st dV) (hl : getL name es = some none)
  (H : wpAny (model P w) A (eval e env) (fun v s₁ => K.In s₁.heap ∧ codeAny (model P w) A (.call (.ref f) ⟨[.ref d, v], []⟩) (back Q E) s₁) E ⟨h, gs, dr, t, os⟩)
  (hk : env.scope.kind = .function := by rfl) (hx : env.kindOf x = some .local := by rfl) (hd : (x == ("__debug__" : Str)) = false := by decide)
  (h1 : starEach [e] env = (false, eval e env) :: starEach [] env := by rfl)
  (he : eval (.Call (.Attribute (.Name x xp) name apos) [e] [] pos) env = (do
   let ov ← eval (.Name x xp) env
   standAt apos.atName
   let (f, first) ← holding [ov] (getMethod ov name (do return (← importBound (.Name x xp) env).getD true))
   callWith pos f first (backTo pos (starEach [e] env)) (backToKw pos (keywordEach [] env))) := by with_unfolding_all rfl) :
  wpAny (model P w) A (eval (.Call (.Attribute (.Name x xp) name apos) [e] [] pos) env) Q E ⟨h, gs, dr, t, os⟩ := by
 refine methodCall_KW (nmE c hv ?_ hk hx hd) he
 exact method_fn (s := ⟨h, gs, dr, t, os⟩) (X.keeps c.X.gh) (I.keeps c.X.gh).instAt (plainGet_of M.pg).1 (plainGet_of M.pg).2 M.fi (beq_iff_eq.mp M.isf)
  (by show (lookIn name (dictOf es n)).map _ = _; rw [lookIn_dict, hl]; rfl) (callWith_K (h₀ := g) X M.kp (wpAny_items_cons (wpAny_mono H (fun v s₁ h₁ => wpAny_items_nil ⟨h₁.1, wpAny_call h₁.2⟩) fun _ _ x => x) h1) h1 rfl)
end
section
variable {w : World} {A : Around} {E : Value → Shared → Prop} {K : Frag} {mg mb : Str → Option Value} {gs : Array GenState} {dr : Drawn} {t : Tok} {os : OsState} {L : Addr} {g₀ h₀ g h : Heap} {m : Str → Option Value} {ow : List Ent}
theorem next_genO {dmax gi : Nat} {a : Addr} {outs : List (List Nat)} {pv : Addr → Prop} {gv : Nat → Prop} {Q : Option Value → Shared → Prop} (hh : A.handled = none) (hl : h.NoLimit) (hroom : A.depth < recursionLimit) (hd : A.depth ≤ dmax)
  (hg : h.IsGen a gi) (L : GLive w g dmax outs pv gv gi ⟨h, gs, dr, t, os⟩) (kg : Keep g h)
  (H1 : outs = [] → ∀ h' gs' t', Chg pv (fun k => gv k ∨ k = gi) ⟨h, gs, dr, t, os⟩ ⟨h', gs', dr, t', os⟩ → Q none ⟨h', gs', dr, t', os⟩)
  (H2 : ∀ x rest, outs = x :: rest → ∀ h' gs' t' tx pv' gv', Grown g pv gv ⟨h, gs, dr, t, os⟩ pv' gv' ⟨h', gs', dr, t', os⟩ → Chg pv (fun k => gv k ∨ k = gi) ⟨h, gs, dr, t, os⟩ ⟨h', gs', dr, t', os⟩ →
   GLive w g dmax rest pv' gv' gi ⟨h', gs', dr, t', os⟩ → Q (some (.str (st x) tx)) ⟨h', gs', dr, t', os⟩) :
  wpAny (model P w) A (pyNext (.ref a)) Q E ⟨h, gs, dr, t, os⟩ := by
 refine next_gen (s := ⟨h, gs, dr, t, os⟩) hh hl hroom hd hg L kg (fun e s' c => ?_) (fun x rest e s' tx pv' gv' G c GL => ?_)
 ·obtain ⟨h', gs', dr', t', os'⟩ := s'
  obtain rfl := c.dr.symm
  obtain rfl := c.os.symm
  exact H1 e _ _ _ c
 ·obtain ⟨h', gs', dr', t', os'⟩ := s'
  obtain rfl := c.dr.symm
  obtain rfl := c.os.symm
  exact H2 x rest e _ _ _ tx pv' gv' G c GL
theorem law_gen (kf : KFM K) (B : Base w K mg mb g) (hroom : A.depth + 40 ≤ recursionLimit) (hu : A.units + 70 < cLine) (hh : A.handled = none) {W : Addr} {vs : Array Value} {ws : List (List Nat)} {d dx T Df F U : Addr} {D : Dfa} {Q : Flow → Shared → Prop}
  (C : Cur RO g₀ h₀ L g h m ow) (hm : m "words" = some (.ref W)) (hl : g.IsList W vs) (hs : StrsAre vs.toList (ws.map st)) (hn : ws.length ≤ 8) (hd : m "dfa" = some (.ref d)) (I : DfaAt w g d dx T Df F U D) (ok : DfaOk D ws 8)
  (H : ∀ g' h' gs' t', Keep g g' → (AllBare gs → AllBare gs') → Cur RO g₀ h₀ L g' h' m ow → Q .next ⟨h', gs', dr, t', os⟩) :
  wpAny (model P w) (A.deeper (eLaw L)) (exec (lawSt 12) (eLaw L)) Q E ⟨h, gs, dr, t, os⟩ := by
 refine exE2 I.inst fun td nI I₀ => ?_
 refine wpAny_If (wpAny_isTrue_Compare1 (comp_enter (cl := []) (closureFor_none (by decide)) (methE0 (env := eLaw L) C B.X hd I₀ kf.mGen (by rfl) ?_) (hs := by intro _; rfl)))
 refine gen_first (A := A.deeper (eLaw L)) (dmax := A.depth + 1) (n := 8 + 1) kf.toKF12 C.X.gh B (by show A.depth + 1 < _; lia) I ok.up ok.deep (by decide) (by lia) fun g₁ h₁ t₁ a L₁ st₁ hbst x₁ ha GL hL₁ => ?_
 have C₁ := C.ro x₁
 refine wpAny_pyIter_gen (s := ⟨h₁, gs.push st₁, dr, t₁, os⟩) (ha.keeps C₁.X.gh) fun Dc Cc h₃ t₃ m₃ hDc hCc hDC k₃ hns₃ hacc₃ => ?_
 refine ⟨fun Q' E' hq => wpAny_pyIter_gen (s := ⟨h₃, gs.push st₁, dr, t₃, os⟩) ((ha.keeps C₁.X.gh).keeps k₃) hq, ?_⟩
 rw [ok.gen] at GL
 have big : ∀ b : Addr, h₁.objs.size ≤ b → h₁.get? b = none := fun b hb => by
  cases q : h₁.get? b with
  | none => rfl
  | some o => exact absurd (Heap.lt_size q) (Nat.not_lt.mpr hb)
 refine codeAny_compLoop_tests (target := .Name "word" _) (fun k s' => ∃ dn outs h' gs' tk pv gv ys m', s' = ⟨h', gs', dr, tk, os⟩ ∧ GLive w g₁ (A.depth + 1) outs pv gv gs.size s' ∧ dn ++ outs = ws ∧ StrsAre ys.toList (dn.map st) ∧ h'.PlainList Dc ys ∧ h'.Ns Cc m' ∧
   Keep h h' ∧ Keep g₁ h' ∧ (∀ b, pv b → h.get? b = none ∧ b ≠ Cc ∧ b ≠ Dc) ∧ k = outs.length + 1 ∧ (AllBare gs → AllBare gs')) ?_ (ws.length + 1) ⟨[], ws, h₃, gs.push st₁, t₃, _, _, #[], m₃, rfl, GL.same ⟨fun b o _ e => k₃ b o e, Nat.le_refl _, fun _ _ => rfl⟩ rfl, rfl, .nil, hacc₃, hns₃, x₁.keep.trans k₃, C₁.X.gh.trans k₃, fun b z => ?_, rfl, fun hb => hb.push hbst⟩
 ·intro k s' zI
  refine exE9 zI fun dn outs h' gs' tk pv gv ys m' zJ => anE11 zJ fun e0 GL' hdn hys hacc' hns' kh' kg' hpv ek hbr => ?_
  clear zJ zI
  subst s'; subst k
  refine next_genO (A := A.deeper (eLaw L)) (outs := outs) hh ((B.lim.keeps x₁.gg).keeps kg') (by show A.depth + 1 < _; lia) (by show A.depth + 1 ≤ _; lia) (ha.keeps kg') GL' kg' (fun he h₄ gs₄ tk₄ c₄ => ?_) (fun x rest he h₄ gs₄ tk₄ tx pv₄ gv₄ G₄ c₄ GL₄ => ?_)
  ·rw [he, List.append_nil] at hdn
   rw [hdn] at hys
   have keepC : ∀ b o, ¬ pv b → h'.get? b = some o → h₄.get? b = some o := c₄.old
   refine ⟨rfl, m', hns'.at' fun o e => keepC _ o (fun z => (hpv _ z).2.1 rfl) e, fun h₅ hs₅ => ?_⟩
   have hl₅ : h₅.IsList Dc ys := (hacc'.at fun o e => keepC _ o (fun z => (hpv _ z).2.2 rfl) e).isList.extBut hs₅.extBut hDC
   have k₅ : Keep h h₅ := fun b o e => hs₅.extBut b o (fun z => by
    have := big b (z ▸ hCc)
    rw [x₁.keep b o e] at this; cases this) (keepC b o (fun z => by rw [(hpv b z).1] at e; cases e) (kh' b o e))
   (refine Exists.elim (C.kept k₅) fun g₅ zr1 => anE3 zr1 fun C₅ kg₅ _ => ?_; clear zr1)
   have hlW : h₅.IsList W vs := hl.at fun o e => k₅ _ _ (C.X.gh _ _ e)
   refine nmE C₅ hm (ne_texts (s := ⟨h₅, gs₄, dr, tk₄, os⟩) hl₅ hlW hys hs (by show A.units + 3 < _; lia) (wpAny_truthy_bool ?_))
   simp only [ne_eq, not_true_eq_false, decide_false, Bool.false_eq_true, if_false]
   exact wpAny_execs_nil (H g₅ h₅ gs₄ tk₄ kg₅ (fun hb => c₄.br (hbr hb)) C₅)
  ·rw [he] at hdn
   have keepC : ∀ b o, ¬ pv b → h'.get? b = some o → h₄.get? b = some o := c₄.old
   have hns₄ : h₄.Ns Cc m' := hns'.at' fun o e => keepC _ o (fun z => (hpv _ z).2.1 rfl) e
   have hacc₄ : h₄.PlainList Dc ys := hacc'.at fun o e => keepC _ o (fun z => (hpv _ z).2.2 rfl) e
   have liveC : h'.get? Cc ≠ none := Ns_some hns'
   have liveD : h'.get? Dc ≠ none := by obtain ⟨n, e⟩ := hacc'; rw [e]; exact Option.some_ne_none _
   have hpv₄ : ∀ b, pv₄ b → h.get? b = none ∧ b ≠ Cc ∧ b ≠ Dc := fun b z => by
    rcases G₄.pn b z with y | y
    ·exact hpv b y
    ·refine (anI3 ?_ (fun e => liveC (e ▸ y)) (fun e => liveD (e ▸ y)))
     cases q : h.get? b with
     | none => rfl
     | some o => have := kh' b o q; rw [show h'.get? b = none from y] at this; cases this
   refine wpAny_assign_Name (wpAny_storeName_local (env := compEnvC _ [] Cc (eLaw L)) (s := ⟨h₄, gs₄, dr, tk₄, os⟩) (by rfl) hns₄ (fun h₅ hn₅ hs₅ => ?_) (by rfl))
   refine wpAny_tests_nil ?_
   rw [if_pos rfl]
   refine ldVarK hn₅ (if_pos rfl) ?_
   have hacc₅ : h₅.PlainList Dc ys := hacc₄.at fun o e => hs₅.extBut Dc o hDC e
   have hlen : dn.length + (rest.length + 1) = ws.length := by rw [← hdn, List.length_append, List.length_cons]
   have hyl : ys.size = dn.length := by have := hys.length; simpa using this
   refine wpAny_list_append_plain (hsz := by rw [sizeLine_eq, hyl]; lia) hacc₅ fun h₆ hl₆ hs₆ => ?_
   refine ⟨rest.length + 1, by rw [he]; exact Nat.lt_succ_self _, dn ++ [x], rest, h₆, gs₄, _, pv₄, gv₄, ys.push _, _, rfl, GL₄.same ⟨fun b o z e => ?_, Nat.le_refl _, fun _ _ => rfl⟩ rfl, by rw [← hdn]; simp, ?_, hl₆, hn₅.sameBut hs₆ (Ne.symm hDC), fun b o e => ?_, fun b o e => ?_, hpv₄, rfl, fun hb => c₄.br (hbr hb)⟩
   ·exact hs₆.extBut b o (hpv₄ b z).2.2 (hs₅.extBut b o (hpv₄ b z).2.1 e)
   ·rw [Array.toList_push, List.map_append]
    exact StrsAre.snoc hys (st x) tx
   ·have e₄ := keepC b o (fun z => by rw [(hpv b z).1] at e; cases e) (kh' b o e)
    have e₁ := x₁.keep b o e
    exact hs₆.extBut b o (fun z => by rw [big b (z ▸ hDc)] at e₁; cases e₁) (hs₅.extBut b o (fun z => by rw [big b (show h₁.objs.size ≤ b from z ▸ hCc)] at e₁; cases e₁) e₄)
   ·have e₁ := C₁.X.gh b o e
    have e₄ := keepC b o (fun z => by rw [GL'.pg b z] at e; cases e) (kg' b o e)
    exact hs₆.extBut b o (fun z => by rw [big b (z ▸ hDc)] at e₁; cases e₁) (hs₅.extBut b o (fun z => by rw [big b (show h₁.objs.size ≤ b from z ▸ hCc)] at e₁; cases e₁) e₄)
 ·obtain rfl := z
  refine (anI3 hL₁ (fun e => ?_) (fun e => ?_))
  ·exact GL.pl b rfl (big b (e ▸ hCc))
  ·exact GL.pl b rfl (big b (e ▸ hDc))
end
end
section
open PySem PySem.W PyProof.Rows
noncomputable def SetE' (a : Addr) (es : Array (Int × Value)) (ep : Nat) (tb : SetTable) : Ent := (a, fun h => SetHas h a es ep tb)
section
variable {w : World} {A : Around} {E : Value → Shared → Prop} {K : Frag} {mg mb : Str → Option Value} {gs : Array GenState} {dr : Drawn} {t : Tok} {os : OsState} {L : Addr} {g₀ h₀ g h : Heap} {m : Str → Option Value} {ow : List Ent}
theorem law_rests (kf : KFM K) (B : Base w K mg mb g) {Q : Flow → Shared → Prop} (C : Cur RO g₀ h₀ L g h m ow)
  (H : ∀ h' m' t' a es ep tb, Tups w g es tb [] → Cur RO g₀ h₀ L g h' m' (SetE' a es ep tb :: ow) → m' "rests" = some (.ref a) → (∀ y : Str, y ≠ "rests" → m' y = m y) → Q .next ⟨h', gs, dr, t', os⟩) :
  wpAny (model P w) (A.deeper (eLaw L)) (exec (lawSt 13) (eLaw L)) Q E ⟨h, gs, dr, t, os⟩ := by
 refine wpAny_Assign_Name (callT0 C.X.gh B (kf.bn "set" (by decide)) bt_set (by decide) (call_set_0 (s := ⟨h, gs, dr, t, os⟩) fun led => ?_)) (by rfl)
 obtain ⟨C₁, nw⟩ := C.alloc (o := { cls := .type "set", dict := none, data := .set #[] 0 (.fresh 0 0 led) }) (Pr := fun h' => SetHas h' h.objs.size #[] 0 (.fresh 0 0 led)) rfl fun h' _ e => ⟨_, e, ⟨rfl, rfl, rfl⟩, rfl, by cases led <;> decide⟩
 exact stE C₁ fun h2 t2 m2 e1 e2 C2 => H h2 m2 t2 h.objs.size #[] 0 _ fresh_tups C2 e1 e2
noncomputable def restOf (ws : List (List Nat)) (wd : List Nat) (p : Nat) : List (List Nat) := (ws.filter fun o => o.take p == wd.take p).map (·.drop p)
theorem take_len {x : List Nat} (h : x.length ≤ 1000) (p : Nat) : (x.take p).length ≤ 1000 := Nat.le_trans (by rw [List.length_take]; exact Nat.min_le_right _ _) h
theorem law_slice {env : Env} {p pos p1 p2 : Pos} {wd : List Nat} {tw tp : Tok} {k : Nat} {Q : Value → Shared → Prop} {h : Heap} {gs : Array GenState} {dr : Drawn} {t : Tok} {os : OsState} (hz : wd.length ≤ 1000) (x y : Str)
  (hx : ∀ Q' : Value → Shared → Prop, Q' (.str (st wd) tw) ⟨h, gs, dr, t, os⟩ → wpAny (model P w) A (eval (.Name x p1) env) Q' E ⟨h, gs, dr, t, os⟩)
  (hy : ∀ Q' : Value → Shared → Prop, Q' (.int (k : Nat) tp) ⟨h, gs, dr, t, os⟩ → wpAny (model P w) A (eval (.Name y p2) env) Q' E ⟨h, gs, dr, t, os⟩)
  (H : ∀ h' t' tt, Keep h h' → Q (.str (st (wd.take k)) tt) ⟨h', gs, dr, t', os⟩) :
  wpAny (model P w) A (eval (.Subscript (.Name x p1) (.Slice none (some (.Name y p2)) none p) pos) env) Q E ⟨h, gs, dr, t, os⟩ :=
 sliceTo (hx _ (hy _ (exI6 wd tw k tp h t (anI5 rfl rfl rfl hz H))))
end
end
section
open PySem PySem.W PyProof.Rows
noncomputable abbrev loopB (s : Stmt) : List Stmt := bodyOf s
noncomputable abbrev wordB : List Stmt := loopB (lawSt 14)
noncomputable abbrev placeB : List Stmt := loopB (wordB.getD 0 (.Pass default))
noncomputable def samePre (k : Nat) (wd : List Nat) (v : Value) : Bool := match v with
 | .str x _ => x.cps.toList.take k == wd.take k
 | _ => false
theorem rest_strs {k : Nat} {wd : List Nat} : ∀ {ws : List (List Nat)} {vs ys : List Value}, StrsAre vs (ws.map st) → Paired (fun v y => ∃ x t tt, v = Value.str (st x) t ∧ y = .str (st (x.drop k)) tt) (vs.filter (samePre k wd)) ys →
  StrsAre ys (((ws.filter fun o => o.take k == wd.take k).map (·.drop k)).map st)
 | [], vs, ys, hs, hF => by
  cases hs
  cases hF
  exact .nil
 | o :: ws, vs, ys, hs, hF => by
  rw [List.map_cons] at hs
  cases hs with
  | @cons _ t vs' _ hr =>
   have e : samePre k wd (.str (st o) t) = (o.take k == wd.take k) := by simp [samePre, st]
   rw [List.filter_cons, e] at hF
   rw [List.filter_cons]
   cases hb : (o.take k == wd.take k) with
   | true =>
    rw [hb] at hF
    simp only [if_true] at hF ⊢
    cases hF with
    | cons h1 h2 =>
     (refine exE3 h1 fun x t' tt zr2 => anE2 zr2 fun e1 ze1 => ?_; clear h1 zr2; subst ze1)
     have : x = o := by
      injection e1 with e1 _
      have := congrArg (fun s : Str => s.cps.toList) e1
      simpa [st] using this.symm
     subst this
     exact .cons _ tt (rest_strs hr h2)
   | false =>
    rw [hb] at hF
    simp only [Bool.false_eq_true, if_false] at hF ⊢
    exact rest_strs hr hF
theorem strsAt {vs : Array Value} {ws : List (List Nat)} (hs : StrsAre vs.toList (ws.map st)) {i : Nat} {v : Value} (e : vs[i]? = some v) : ∃ wd t, ws[i]? = some wd ∧ v = .str (st wd) t := by
 have hsz : vs.size = ws.length := by have := hs.length; simpa using this
 obtain ⟨wd, hwd⟩ : ∃ wd, ws[i]? = some wd := ⟨ws[i]'(by rw [← hsz]; exact (Array.getElem?_eq_some_iff.mp e).1), List.getElem?_eq_getElem _⟩
 obtain ⟨t', ht⟩ := hs.get i (st wd) (by rw [List.getElem?_map, hwd]; rfl)
 rw [Array.getElem?_toList, e] at ht
 cases ht
 exact (exI2 wd t' ⟨hwd, rfl⟩)
theorem any_mem {vs : Array Value} {ws : List (List Nat)} (hs : StrsAre vs.toList (ws.map st)) (x : List Nat) : vs.any (fun y => match y with | .str z _ => z == st x | _ => false) = decide (x ∈ ws) := by
 rw [← Array.any_toList]
 generalize vs.toList = l at hs
 clear vs
 induction ws generalizing l with
 | nil => cases hs; simp
 | cons o ws ih =>
  rw [List.map_cons] at hs
  cases hs with
  | @cons _ t vs' _ hr =>
   rw [List.any_cons, ih _ hr, Bool.eq_iff_iff]
   have : (st o == st x) = decide (o = x) := by
    rw [Bool.eq_iff_iff, beq_iff_eq, decide_eq_true_iff]
    exact ⟨fun e => by have := congrArg (fun s : Str => s.cps.toList) e; simpa [st] using this, fun e => by rw [e]⟩
   simp only [this, Bool.or_eq_true, decide_eq_true_iff, List.mem_cons]
   exact ⟨fun h => h.imp Eq.symm id, fun h => h.imp Eq.symm id⟩
section
variable {w : World} {A : Around} {E : Value → Shared → Prop} {s : Shared}
theorem in_words {a : Addr} {vs : Array Value} {ws : List (List Nat)} {x : List Nat} {tx : Tok} {Q : Value → Shared → Prop} (hl : s.heap.IsList a vs) (hs : StrsAre vs.toList (ws.map st)) (H : Q (.bool (decide (x ∈ ws))) s) :
  wpAny (model P w) A (compareOp .In (.str (st x) tx) (.ref a)) Q E s := by
 refine SeqAt.in_listAt (fun y => match y with | .str z _ => z == st x | _ => false) hl (fun y hy => ?_) (by rw [any_mem hs]; exact H)
 obtain ⟨i, hi, e⟩ := Array.getElem_of_mem hy
 (refine exE2 (strsAt hs (i := i) (v := y) (by rw [Array.getElem?_eq_getElem hi, e])) fun wd t zr4 => anE2 zr4 fun _ ze3 => ?_; clear zr4; subst ze3)
 exact SeqAt.EqAt.str_str _ _ _ _
end
section
variable {w : World} {A : Around} {E : Value → Shared → Prop} {K : Frag} {mg mb : Str → Option Value} {gs : Array GenState} {dr : Drawn} {t : Tok} {os : OsState} {L : Addr} {g₀ h₀ g h : Heap} {m : Str → Option Value} {ow : List Ent}
theorem law_asked (kf : KFM K) (B : Base w K mg mb g) (hroom : A.depth + 3 < recursionLimit) (hh : A.handled = none) {W : Addr} {vs : Array Value} {ws : List (List Nat)} {d dx T Df F U : Addr} {D : Dfa} {wd : List Nat} {tw tp : Tok} {p : Nat} {Q : Flow → Shared → Prop}
  (C : Cur RO g₀ h₀ L g h m ow) (hm : m "words" = some (.ref W)) (hl : g.IsList W vs) (hs : StrsAre vs.toList (ws.map st)) (hd : m "dfa" = some (.ref d)) (I : DfaAt w g d dx T Df F U D) (ok : DfaOk D ws 8)
  (hw : CellE (L + 1) (some (.str (st wd) tw)) ∈ ow) (hp : CellE (L + 1 + 1 + 1) (some (.int (p : Nat) tp)) ∈ ow) (hz : wd.length ≤ 1000)
  (H : ∀ g' h' t', Keep g g' → Cur RO g₀ h₀ L g' h' m ow → Q .next ⟨h', gs, dr, t', os⟩) :
  wpAny (model P w) (A.deeper (eLaw L)) (exec (placeB.getD 0 (.Pass default)) (eLaw L)) Q E ⟨h, gs, dr, t, os⟩ := by
 refine exE2 I.inst fun td nI I₀ => ?_
 refine wpAny_If (wpAny_isTrue_Compare1 (methE1 (env := eLaw L) C B.X hd I₀ kf.mAccept (by rfl) (law_slice hz "word" "place" (fun Q' hq => nmC C hw (law_word L) hq) (fun Q' hq => nmC C hp (law_place L) hq) fun h1 t1 tt k1 => ⟨B.X.keeps (fun b o e => k1 b o (C.X.gh b o e)), ?_⟩)))
 refine accept_spec (A := A.deeper (eLaw L)) kf.toKF (fun b o e => k1 b o (C.X.gh b o e)) B (by show A.depth + 1 + 1 < _; lia) hh I ok.nz fun g₂ h₂ t₂ x₂ => ?_
 (refine Exists.elim (C.kept (h' := h₂) (k1.trans x₂.keep)) fun g₃ zr5 => anE3 zr5 fun C₃ kg₃ _ => ?_; clear zr5)
 refine wpAny_Compare1 (law_slice hz "word" "place" (fun Q' hq => nmC C₃ hw (law_word L) hq) (fun Q' hq => nmC C₃ hp (law_place L) hq) fun h4 t4 tt4 k4 => ?_)
 (refine Exists.elim (C₃.kept k4) fun g₄ zr6 => anE3 zr6 fun C₄ kg₄ _ => ?_; clear zr6)
 refine nmE C₄ hm (in_words (hl.at fun o e => C₄.X.gh _ _ (kg₄ _ _ (kg₃ _ _ e))) hs ?_)
 refine SeqAt.RcNeAt.bool_bool _ _ P w _ _ (wpAny_truthy_bool ?_)
 rw [ok.acc]
 simp only [beq_self_eq_true, Bool.not_true, Bool.false_eq_true, if_false]
 exact wpAny_execs_nil (H g₄ h4 t4 (kg₃.trans kg₄) C₄)
end
end
section
open PySem PySem.W PyProof.Rows
section
variable {w : World} {A : Around} {E : Value → Shared → Prop} {K : Frag} {mg mb : Str → Option Value} {gs : Array GenState} {dr : Drawn} {t : Tok} {os : OsState} {L : Addr} {g₀ h₀ g h : Heap} {m : Str → Option Value} {ow : List Ent}
theorem tk_of {h : Heap} {a : Addr} {vs : Array Value} {ks : List Str} {n : Nat} (e : h.get? a = some { cls := .type "tuple", data := .seq vs n }) (hs : StrsAre vs.toList ks) : (TK w).is h ks (.ref a) := by
 refine ⟨vs.toList, ⟨a, _, n, rfl, e, rfl, by simp⟩, ?_⟩
 generalize vs.toList = l at hs
 induction hs with
 | nil => exact .nil
 | cons x t _ ih => exact .cons (strKind_is _ _ _ _) ih
theorem law_add (kf : KFM K) (B : Base w K mg mb g) (hu : A.units + 70 < cLine) (hh : A.handled = none) {W S : Addr} {vs : Array Value} {ws : List (List Nat)} {wd : List Nat} {tw tp : Tok} {p : Nat} {es : Array (Int × Value)} {ep : Nat} {tb : SetTable} {l : List (List Str)} {Q : Flow → Shared → Prop}
  (C : Cur RO g₀ h₀ L g h m (SetE' S es ep tb :: ow)) (hm : m "words" = some (.ref W)) (hl : g.IsList W vs) (hs : StrsAre vs.toList (ws.map st)) (hr : m "rests" = some (.ref S)) (hT : Tups w g es tb l) (hll : l.length ≤ 70)
  (hw : CellE (L + 1) (some (.str (st wd) tw)) ∈ ow) (hp : CellE (L + 1 + 1 + 1) (some (.int (p : Nat) tp)) ∈ ow) (hz : ∀ w ∈ ws, w.length ≤ 1000) (hwd : wd.length ≤ 1000) (hn : ws.length ≤ 1000) (hpz : ∀ w ∈ ws, w.take p = wd.take p → p ≤ w.length)
  (H : ∀ g' h' t' es' ep' tb', Keep g g' → Tups w g' es' tb' (addL l ((restOf ws wd p).map st)) → Cur RO g₀ h₀ L g' h' m (SetE' S es' ep' tb' :: ow) → Q .next ⟨h', gs, dr, t', os⟩) :
  wpAny (model P w) (A.deeper (eLaw L)) (exec (placeB.getD 1 (.Pass default)) (eLaw L)) Q E ⟨h, gs, dr, t, os⟩ := by
 have hS : SetHas h S es ep tb := C.get (SetE' S es ep tb) mem0
 have hlh : h.IsList W vs := hl.at fun o e => C.X.gh _ _ e
 have hsz : vs.size = ws.length := by have := hs.length; simpa using this
 have cellW : ∀ h', Keep h h' → h'.IsCell (L + 1) (some (.str (st wd) tw)) := fun h' k => (C.get (CellE (L + 1) (some (.str (st wd) tw))) (.tail _ hw)).keeps k
 have cellP : ∀ h', Keep h h' → h'.IsCell (L + 1 + 1 + 1) (some (.int (p : Nat) tp)) := fun h' k => (C.get (CellE (L + 1 + 1 + 1) (some (.int (p : Nat) tp))) (.tail _ hp)).keeps k
 refine wpAny_Expr_any (bmeth1_ (nmE C hr (exI2 ("set") ("set.add") (anI6 PySem.F.plainAttrs_set PySem.F.slot_set_add PySem.F.type_set_add (hS.typeIs (s := ⟨h, gs, dr, t, os⟩)) (hS.noDict (s := ⟨h, gs, dr, t, os⟩)) (callT1 C.X.gh B (kf.bn "tuple" (by decide)) bt_tuple (by decide) ?_)))))
 refine compL (a := W) (items := vs) (cl := [("word", L + 1), ("place", L + 1 + 1 + 1)]) (samePre p wd) (fun v y => ∃ x t tt, v = Value.str (st x) t ∧ y = .str (st (x.drop p)) tt) (by rfl) hh (fun Q' hq => nmE C hm (hq h t (Keep.refl _) hlh)) (by lia) (fun Cc i v s₃ m₃ E' hv hns hmv hk => ?_) (fun Cc i v s₃ m₃ E' hv hpv hns hmv hk => ?_) fun h1 t1 D1 ys k1 hD1 hl1 hF => ?_
 ·obtain ⟨h₃, gs₃, dr₃, t₃, os₃⟩ := s₃
  (refine exE2 (strsAt hs hv) fun x tx zr2 => anE2 zr2 fun hx ze1 => ?_; clear zr2; subst ze1)
  have hx1 := hz x (List.mem_of_getElem? hx)
  refine wpAny_tests_one (wpAny_isTrue_Compare1 (law_slice hx1 "other" "place" (fun Q' hq => ldVarK hns hmv hq) (fun Q' hq => ldCellK rfl (cellP _ hk) hq) fun h4 t4 tt4 k4 => ?_))
  refine law_slice hwd "word" "place" (fun Q' hq => ldCellK rfl (cellW _ (fun b o e => k4 b o (hk b o e))) hq) (fun Q' hq => ldCellK rfl (cellP _ (fun b o e => k4 b o (hk b o e))) hq) fun h5 t5 tt5 k5 => ?_
  refine P.eq_str (wpAny_truthy_bool ⟨?_, h5, t5, rfl, fun b o e => k5 b o (k4 b o e)⟩)
  simp [samePre, st]
 ·obtain ⟨h₃, gs₃, dr₃, t₃, os₃⟩ := s₃
  (refine exE2 (strsAt hs hv) fun x tx zr4 => anE2 zr4 fun hx ze3 => ?_; clear zr4; subst ze3)
  have hx1 := hz x (List.mem_of_getElem? hx)
  refine sliceFrom (ldVarK hns hmv (ldCellK rfl (cellP _ hk) (exI6 x tx p tp h₃ t₃ (anI6 rfl rfl rfl hx1 (hpz x (List.mem_of_getElem? hx) (by simpa [samePre, st] using hpv)) (fun h' t' tt k => ⟨(exI3 x tx tt ⟨rfl, rfl⟩), h', t', rfl, k⟩)))))
 ·have hys := rest_strs hs hF
  have hyz : ys.size ≤ 1000 := by
   have := hys.length
   simp only [List.length_map, Array.length_toList] at this
   have := List.length_filter_le (fun o => o.take p == wd.take p) ws
   lia
  refine call_tuple_list (s := ⟨h1, gs, dr, t1, os⟩) hl1 (fun h2 k2 => ?_) (by rw [sizeLine_eq]; lia)
  have k3 : Keep h (h2.push { cls := .type "tuple", data := .seq ys }) := fun b o e => Heap.get?_push_of_some _ (k2 b o (k1 b o e))
  have hnT : h.get? h2.objs.size = none := by
   cases q : h.get? h2.objs.size with
   | none => rfl
   | some o => exact absurd (Heap.lt_size (k2 _ _ (k1 _ _ q))) (Nat.lt_irrefl _)
  (refine Exists.elim (C.kept k3) fun g₃ zr5 => anE3 zr5 fun C₃ kg₃ fz₃ => ?_; clear zr5)
  have hT3 : g₃.get? h2.objs.size = some { cls := .type "tuple", data := .seq ys } := fz₃ _ _ (Heap.get?_push_size _ rfl) hnT
  have hS3 : SetHas (h2.push { cls := .type "tuple", data := .seq ys }) S es ep tb := C₃.get (SetE' S es ep tb) mem0
  refine call_add_tup (g := g₃) (s := ⟨h2.push { cls := .type "tuple", data := .seq ys }, gs, dr, t1, os⟩) C₃.X.gh (by show A.units + 3 + 66 < _; lia) hS3 (hT.keep kg₃) (tk_of hT3 hys) hll fun h4 es' ep' tb' tk hsb hS4 hT4 => ?_
  have C₄ : Cur RO g₀ h₀ L g₃ h4 m (SetE' S es' ep' tb' :: ow) := C₃.upd (l := []) (r := ow) hsb (by
   obtain ⟨o, ho, r⟩ := hS4
   exact ⟨o, ho, fun h' _ e => ⟨o, e, r⟩⟩)
  exact H g₃ h4 tk es' ep' tb' kg₃ hT4 C₄
end
end
section
open PySem PySem.W PyProof.Rows
noncomputable def addsL (l xs : List (List Str)) : List (List Str) := xs.foldl addL l
theorem addsL_len : ∀ (xs l : List (List Str)), (addsL l xs).length ≤ l.length + xs.length
 | [], l => Nat.le_refl _
 | x :: xs, l => by
  have h1 := addsL_len xs (addL l x)
  have h2 := addL_len l x
  show (addsL (addL l x) xs).length ≤ _
  rw [List.length_cons]; lia
theorem addsL_app (l xs ys : List (List Str)) : addsL l (xs ++ ys) = addsL (addsL l xs) ys := by unfold addsL; rw [List.foldl_append]
noncomputable def ofWord (ws : List (List Nat)) (wd : List Nat) (n : Nat) : List (List Str) := (List.range n).map fun p => (restOf ws wd p).map st
theorem ofWord_succ (ws : List (List Nat)) (wd : List Nat) (n : Nat) : ofWord ws wd (n + 1) = ofWord ws wd n ++ [(restOf ws wd n).map st] := by
 unfold ofWord; rw [List.range_succ, List.map_append]; rfl
noncomputable def ofWords (ws us : List (List Nat)) : List (List Str) := us.flatMap fun wd => ofWord ws wd (wd.length + 1)
theorem take_eq_le {w wd : List Nat} {p : Nat} (h : p ≤ wd.length) (e : w.take p = wd.take p) : p ≤ w.length := by
 have := congrArg List.length e
 rw [List.length_take, List.length_take] at this
 lia
section
variable {w : World} {A : Around} {E : Value → Shared → Prop} {R : Result → Shared → Prop} {K : Frag} {mg mb : Str → Option Value} {gs : Array GenState} {dr : Drawn} {t : Tok} {os : OsState} {L : Addr} {g₀ h₀ g h : Heap} {m : Str → Option Value} {rest : List Ent}
theorem law_places (kf : KFM K) (B : Base w K mg mb g) (hroom : A.depth + 3 < recursionLimit) (hu : A.units + 70 < cLine) (hh : A.handled = none) {W S : Addr} {vs : Array Value} {ws : List (List Nat)} {d dx T Df F U : Addr} {D : Dfa} {wd : List Nat} {tw : Tok} {vp : Option Value} {es : Array (Int × Value)} {ep : Nat} {tb : SetTable} {l : List (List Str)} {fe : List Ent} {Q : Flow → Shared → Prop}
  (C : Cur RO g₀ h₀ L g h m (fe ++ CellE (L + 1) (some (.str (st wd) tw)) :: SetE' S es ep tb :: CellE (L + 1 + 1 + 1) vp :: rest)) (hm : m "words" = some (.ref W)) (hl : g.IsList W vs) (hs : StrsAre vs.toList (ws.map st)) (hr : m "rests" = some (.ref S)) (hT : Tups w g es tb l) (hll : l.length + wd.length + 1 ≤ 70)
  (hd : m "dfa" = some (.ref d)) (I : DfaAt w g d dx T Df F U D) (ok : DfaOk D ws 8) (hz : ∀ w ∈ ws, w.length ≤ 1000) (hwd : wd.length ≤ 1000) (hn : ws.length ≤ 1000)
  (H : ∀ g' h' t' es' ep' tb' vp', Keep g g' → Tups w g' es' tb' (addsL l (ofWord ws wd (wd.length + 1))) → Cur RO g₀ h₀ L g' h' m (fe ++ CellE (L + 1) (some (.str (st wd) tw)) :: SetE' S es' ep' tb' :: CellE (L + 1 + 1 + 1) vp' :: rest) → Q .next ⟨h', gs, dr, t', os⟩) :
  wpAny (model P w) (A.deeper (eLaw L)) (exec (wordB.getD 0 (.Pass default)) (eLaw L)) Q E ⟨h, gs, dr, t, os⟩ := by
 have hcw : CellE (L + 1) (some (.str (st wd) tw)) ∈ fe ++ CellE (L + 1) (some (.str (st wd) tw)) :: SetE' S es ep tb :: CellE (L + 1 + 1 + 1) vp :: rest := memR mem0
 refine wpAny_For (callT1 C.X.gh B (kf.bn "range" (by decide)) bt_range (by decide) (wpAny_BinOp (callF1 C.X.gh B (kf.bn "len" (by decide)) bt_len (by decide) (nmC C hcw (law_word L) ?_))))
 have hlen : (st wd).length = wd.length := by simp [st, Str.length]
 refine PyProof.Rows.len_str (by rw [hlen]; lia) (kI' fun t1 t2 => PyProof.Rows.add_int ?_)
 have e1 : (((st wd).length : Nat) : Int) + 1 = ((wd.length + 1 : Nat) : Int) := by rw [hlen]; lia
 rw [e1]
 refine rangeC (A := A.deeper (eLaw L)) (env := eLaw L) (by lia) hh C fun it g₁ h₁ fi t₁ k₁ C₁ FC => ?_
 obtain ⟨⟨fp, St, Wk, hfp, hlive, hst⟩, hnew⟩ := FC
 have C₁' : Cur RO g₀ h₀ (eLaw L).locals g₁ h₁ m (fi ++ CellE (L + 1 + 1 + 1) vp :: (fe ++ CellE (L + 1) (some (.str (st wd) tw)) :: SetE' S es ep tb :: rest)) := C₁.perm (List.Perm.append_left fi (by
  have := List.perm_middle (l₁ := fe ++ [CellE (L + 1) (some (.str (st wd) tw)), SetE' S es ep tb]) (a := CellE (L + 1 + 1 + 1) vp) (l₂ := rest)
  simpa using this))
 refine forCell Wk hfp hlive (fun i g' m' ow => m' = m ∧ ∃ es ep tb, ow = fe ++ CellE (L + 1) (some (.str (st wd) tw)) :: SetE' S es ep tb :: rest ∧ Tups w g' es tb (addsL l (ofWord ws wd i))) C₁' rfl hnew hst ⟨rfl, (exI3 es ep tb ⟨rfl, (hT.keep k₁)⟩)⟩ (fun i g₂ h₂ m₂ ow₂ fe₂ v t₂ hi k₂ hj hp C₂ => ?_) (fun g₂ h₂ m₂ ow₂ v t₂ k₂ hj C₂ => ?_) (by rfl) (by rfl) (law_place L)
 ·(refine anE2 hj fun ze1 zr3 => exE3 zr3 fun es₂ ep₂ tb₂ zr4 => anE2 zr4 fun ze2 hT₂ => ?_; clear hj zr4 zr3; subst m₂; subst ze2)
  obtain ⟨tv, rfl⟩ := hp
  have ei : (0 : Int) + (i : Nat) * 1 = (i : Nat) := by lia
  rw [ei] at C₂
  have kk := k₁.trans k₂
  have m1 : CellE (L + 1) (some (.str (st wd) tw)) ∈ fe₂ ++ CellE (L + 1 + 1 + 1) (some (.int (i : Nat) tv)) :: (fe ++ CellE (L + 1) (some (.str (st wd) tw)) :: SetE' S es₂ ep₂ tb₂ :: rest) := memR (.tail _ (memR mem0))
  have m2 : CellE (L + 1 + 1 + 1) (some (.int (i : Nat) tv)) ∈ fe₂ ++ CellE (L + 1 + 1 + 1) (some (.int (i : Nat) tv)) :: (fe ++ CellE (L + 1) (some (.str (st wd) tw)) :: SetE' S es₂ ep₂ tb₂ :: rest) := memR mem0
  refine wpAny_execs_cons (law_asked kf (B.keeps kk) hroom hh C₂ hm (hl.at fun o e => kk _ _ e) hs hd (I.keeps kk) ok m1 m2 hwd fun g₃ h₃ t₃ k₃ C₃ => ?_)
  have C₃' : Cur RO g₀ h₀ L g₃ h₃ m (SetE' S es₂ ep₂ tb₂ :: (fe₂ ++ CellE (L + 1 + 1 + 1) (some (.int (i : Nat) tv)) :: (fe ++ CellE (L + 1) (some (.str (st wd) tw)) :: rest))) := C₃.perm (by
   have := List.perm_middle (l₁ := fe₂ ++ CellE (L + 1 + 1 + 1) (some (.int (i : Nat) tv)) :: (fe ++ [CellE (L + 1) (some (.str (st wd) tw))])) (a := SetE' S es₂ ep₂ tb₂) (l₂ := rest)
   simpa using this)
  have lz := addsL_len (ofWord ws wd i) l
  have lo : (ofWord ws wd i).length = i := by simp [ofWord]
  have kk₃ := kk.trans k₃
  refine wpAny_execs_cons (law_add kf (B.keeps kk₃) hu hh C₃' hm (hl.at fun o e => kk₃ _ _ e) hs hr (hT₂.keep k₃) (by lia) (memR (.tail _ (memR mem0))) (memR mem0) hz hwd hn (fun x hx e => take_eq_le (by lia) e) fun g₄ h₄ t₄ es₄ ep₄ tb₄ k₄ hT₄ C₄ => ?_)
  have C₄' : Cur RO g₀ h₀ L g₄ h₄ m (fe₂ ++ CellE (L + 1 + 1 + 1) (some (.int (i : Nat) tv)) :: (fe ++ CellE (L + 1) (some (.str (st wd) tw)) :: SetE' S es₄ ep₄ tb₄ :: rest)) := C₄.perm (by
   have := (List.perm_middle (l₁ := fe₂ ++ CellE (L + 1 + 1 + 1) (some (.int (i : Nat) tv)) :: (fe ++ [CellE (L + 1) (some (.str (st wd) tw))])) (a := SetE' S es₄ ep₄ tb₄) (l₂ := rest)).symm
   simpa using this)
  refine wpAny_execs_nil ⟨g₄, h₄, m, _, _, t₄, rfl, k₃.trans k₄, C₄', rfl, es₄, ep₄, tb₄, rfl, ?_⟩
  rw [ofWord_succ, addsL_app]
  exact hT₄
 ·(refine anE2 hj fun ze5 zr7 => exE3 zr7 fun es₂ ep₂ tb₂ zr8 => anE2 zr8 fun ze6 hT₂ => ?_; clear hj zr8 zr7; subst m₂; subst ze6)
  refine wpAny_execs_nil (H g₂ h₂ t₂ es₂ ep₂ tb₂ v (k₁.trans k₂) hT₂ (C₂.perm ?_))
  have := (List.perm_middle (l₁ := fe ++ [CellE (L + 1) (some (.str (st wd) tw)), SetE' S es₂ ep₂ tb₂]) (a := CellE (L + 1 + 1 + 1) v) (l₂ := rest)).symm
  simpa using this
theorem law_loops (kf : KFM K) (B : Base w K mg mb g) (hroom : A.depth + 3 < recursionLimit) (hu : A.units + 70 < cLine) (hh : A.handled = none) {W S : Addr} {vs : Array Value} {ws : List (List Nat)} {d dx T Df F U : Addr} {D : Dfa} {vw vp : Option Value} {es : Array (Int × Value)} {ep : Nat} {tb : SetTable} {Q : Flow → Shared → Prop}
  (C : Cur RO g₀ h₀ L g h m (CellE (L + 1) vw :: SetE' S es ep tb :: CellE (L + 1 + 1 + 1) vp :: rest)) (hm : m "words" = some (.ref W)) (hl : g.IsList W vs) (hs : StrsAre vs.toList (ws.map st)) (hr : m "rests" = some (.ref S)) (hT : Tups w g es tb [])
  (hd : m "dfa" = some (.ref d)) (I : DfaAt w g d dx T Df F U D) (ok : DfaOk D ws 8) (hz : ∀ w ∈ ws, w.length ≤ 4) (hn : ws.length ≤ 8)
  (H : ∀ g' h' t' es' ep' tb' vw' vp', Keep g g' → Tups w g' es' tb' (addsL [] (ofWords ws ws)) → Cur RO g₀ h₀ L g' h' m (CellE (L + 1) vw' :: SetE' S es' ep' tb' :: CellE (L + 1 + 1 + 1) vp' :: rest) → Q .next ⟨h', gs, dr, t', os⟩) :
  wpAny (model P w) (A.deeper (eLaw L)) (exec (lawSt 14) (eLaw L)) Q E ⟨h, gs, dr, t, os⟩ := by
 have hsz : vs.size = ws.length := by have := hs.length; simpa using this
 have owl : ∀ us : List (List Nat), (∀ u ∈ us, u.length ≤ 4) → (ofWords ws us).length ≤ 5 * us.length := by
  intro us
  induction us with
  | nil => intro _; exact Nat.le_refl _
  | cons u us ih =>
   intro h
   have h1 := ih fun x hx => h x (.tail _ hx)
   have h2 := h u mem0
   have h3 : (ofWord ws u (u.length + 1)).length = u.length + 1 := by simp [ofWord]
   show (ofWord ws u (u.length + 1) ++ ofWords ws us).length ≤ _
   rw [List.length_append, h3, List.length_cons]
   lia
 refine wpAny_For (nmE C hm (listC (A := A.deeper (eLaw L)) (env := eLaw L) hh C hl fun it h₁ fi C₁ FC => ?_))
 obtain ⟨⟨fp, St, Wk, hfp, hlive, hst⟩, hnew⟩ := FC
 refine forCell Wk hfp hlive (fun i g' m' ow => m' = m ∧ ∃ es ep tb vp, ow = SetE' S es ep tb :: CellE (L + 1 + 1 + 1) vp :: rest ∧ Tups w g' es tb (addsL [] (ofWords ws (ws.take i)))) C₁ rfl hnew hst ⟨rfl, (exI4 es ep tb vp ⟨rfl, hT⟩)⟩ (fun i g₂ h₂ m₂ ow₂ fe₂ v t₂ hi k₂ hj hp C₂ => ?_) (fun g₂ h₂ m₂ ow₂ v t₂ k₂ hj C₂ => ?_) (by rfl) (by rfl) (law_word L)
 ·(refine anE2 hj fun ze9 zr11 => exE4 zr11 fun es₂ ep₂ tb₂ vp₂ zr12 => anE2 zr12 fun ze10 hT₂ => ?_; clear hj zr12 zr11; subst m₂; subst ze10)
  (refine exE2 (strsAt hs hp) fun wd tw zr14 => anE2 zr14 fun hwd ze13 => ?_; clear zr14; subst ze13)
  have hwz := hz wd (List.mem_of_getElem? hwd)
  have l1 := addsL_len (ofWords ws (ws.take i)) []
  have l2 := owl (ws.take i) fun u hu => hz u (List.mem_of_mem_take hu)
  have l3 : (ws.take i).length ≤ 7 := by rw [List.length_take]; lia
  simp only [List.length_nil] at l1
  refine wpAny_execs_cons (law_places kf (B.keeps k₂) hroom hu hh C₂ hm (hl.at fun o e => k₂ _ _ e) hs hr hT₂ (by lia) hd (I.keeps k₂) ok (fun x hx => Nat.le_trans (hz x hx) (by decide)) (by lia) (by lia) fun g₃ h₃ t₃ es₃ ep₃ tb₃ vp₃ k₃ hT₃ C₃ => ?_)
  refine wpAny_execs_nil ⟨g₃, h₃, m, _, _, t₃, rfl, k₃, C₃, rfl, es₃, ep₃, tb₃, vp₃, rfl, ?_⟩
  have e : ofWords ws (ws.take (i + 1)) = ofWords ws (ws.take i) ++ ofWord ws wd (wd.length + 1) := by
   rw [List.take_add_one, hwd]
   unfold ofWords
   rw [List.flatMap_append]
   simp
  rw [e, addsL_app]
  exact hT₃
 ·(refine anE2 hj fun ze15 zr17 => exE4 zr17 fun es₂ ep₂ tb₂ vp₂ zr18 => anE2 zr18 fun ze16 hT₂ => ?_; clear hj zr18 zr17; subst m₂; subst ze16)
  rw [hsz, List.take_length] at hT₂
  exact wpAny_execs_nil (H g₂ h₂ t₂ es₂ ep₂ tb₂ v vp₂ k₂ hT₂ C₂)
end
end
section
open PySem PySem.W PyProof.Rows
theorem addsL_mem {y : List Str} : ∀ {xs l : List (List Str)}, y ∈ addsL l xs ↔ y ∈ l ∨ y ∈ xs
 | [], l => by simp [addsL]
 | x :: xs, l => by
  have ih := addsL_mem (y := y) (xs := xs) (l := addL l x)
  show y ∈ addsL (addL l x) xs ↔ _
  rw [ih]
  have : y ∈ addL l x ↔ y ∈ l ∨ y = x := by
   unfold addL
   split
   ·rename_i h
    exact ⟨.inl, fun z => z.elim id fun e => e ▸ h⟩
   ·simp
  rw [this, List.mem_cons, or_assoc]
theorem restOf_resid {ws : List (List Nat)} {wd : List Nat} {p : Nat} (h : p ≤ wd.length) : restOf ws wd p = resid ws (wd.take p) := by
 have e : (wd.take p).length = p := by rw [List.length_take]; lia
 have := resid_law (wd.take p) ws
 rw [e] at this
 exact this
theorem ofWords_mem {ws : List (List Nat)} {y : List Str} : y ∈ ofWords ws ws ↔ ∃ wd ∈ ws, ∃ k, k ≤ wd.length ∧ y = (resid ws (wd.take k)).map st := by
 unfold ofWords ofWord
 simp only [List.mem_flatMap, List.mem_map, List.mem_range]
 constructor
 ·intro zI
  obtain ⟨wd, h1, p, h2, rfl⟩ := zI
  exact ⟨wd, h1, p, by lia, by rw [restOf_resid (by lia)]⟩
 ·intro zI
  obtain ⟨wd, h1, p, h2, rfl⟩ := zI
  exact ⟨wd, h1, p, by lia, by rw [restOf_resid h2]⟩
theorem unst (l : List (List Nat)) : (l.map st).map (fun x : Str => x.cps.toList) = l := map_st l
theorem states_rests {D : Dfa} {ws : List (List Nat)} (ok : DfaOk D ws 8) (nd : (addsL [] (ofWords ws ws)).Nodup) : D.states.length = (addsL [] (ofWords ws ws)).length := by
 have mem : ∀ y, y ∈ addsL [] (ofWords ws ws) ↔ ∃ wd ∈ ws, ∃ k, k ≤ wd.length ∧ y = (resid ws (wd.take k)).map st := fun y => by
  rw [addsL_mem, ofWords_mem]; simp
 rw [ok.states ((addsL [] (ofWords ws ws)).map fun r => r.map fun x : Str => x.cps.toList) ?_ ?_, List.length_map]
 ·rw [List.Nodup, List.pairwise_map]
  refine nd.imp_of_mem fun {a b} ha hb hab e => hab ?_
  obtain ⟨_, _, _, _, rfl⟩ := (mem a).mp ha
  obtain ⟨_, _, _, _, rfl⟩ := (mem b).mp hb
  rw [unst, unst] at e
  rw [e]
 ·intro R
  rw [List.mem_map]
  constructor
  ·rintro ⟨y, hy, rfl⟩
   obtain ⟨wd, h1, k, h2, rfl⟩ := (mem y).mp hy
   exact ⟨wd, h1, k, h2, unst _⟩
  ·intro zI
   obtain ⟨wd, h1, k, h2, rfl⟩ := zI
   exact ⟨_, (mem _).mpr ⟨wd, h1, k, h2, rfl⟩, unst _⟩
section
variable {w : World} {A : Around} {E : Value → Shared → Prop} {K : Frag} {mg mb : Str → Option Value} {gs : Array GenState} {dr : Drawn} {t : Tok} {os : OsState} {L : Addr} {g₀ h₀ g h : Heap} {m : Str → Option Value} {ow : List Ent}
theorem law_count (kf : KFM K) (B : Base w K mg mb g) (hroom : A.depth + 3 < recursionLimit) (hh : A.handled = none) {S : Addr} {ws : List (List Nat)} {d dx T Df F U : Addr} {D : Dfa} {es : Array (Int × Value)} {ep : Nat} {tb : SetTable} {Q : Flow → Shared → Prop}
  (C : Cur RO g₀ h₀ L g h m ow) (hS : SetE' S es ep tb ∈ ow) (hr : m "rests" = some (.ref S)) (hT : Tups w g es tb (addsL [] (ofWords ws ws))) (hd : m "dfa" = some (.ref d)) (I : DfaAt w g d dx T Df F U D) (ok : DfaOk D ws 8)
  (H : ∀ g' h' t', Keep g g' → Cur RO g₀ h₀ L g' h' m ow → Q .next ⟨h', gs, dr, t', os⟩) :
  wpAny (model P w) (A.deeper (eLaw L)) (exec (lawSt 15) (eLaw L)) Q E ⟨h, gs, dr, t, os⟩ := by
 refine exE2 I.inst fun td nI I₀ => ?_
 refine wpAny_If (wpAny_isTrue_Compare1 (callF1 C.X.gh B (kf.bn "len" (by decide)) bt_len (by decide) (methE0 (env := eLaw L) C B.X hd I₀ kf.mAll (by rfl) ?_)))
 refine all_states_spec (A := A.deeper (eLaw L)) kf.toKF13 C.X.gh B (by show A.depth + 1 < _; lia) hh I ok.size fun g₁ h₁ t₁ a x₁ hI => ?_
 have C₁ := C.ro x₁
 obtain ⟨o, es₁, ep₁, tb₁, ho, hex, hda, hel, hmem, hb, hf, hn⟩ := hI.at (fun o e => C₁.X.gh _ _ e)
 refine call_len_set (s := ⟨h₁, gs, dr, t₁, os⟩) ho hex hda hf (by unfold scanBound at hb; lia) ?_
 rw [hn]
 have hS₁ : SetHas h₁ S es ep tb := C₁.get (SetE' S es ep tb) hS
 refine callF1 (h := h₁) C₁.X.gh (B.keeps x₁.gg) (kf.bn "len" (by decide)) bt_len (by decide) (nmE C₁ hr (call_len_tup (s := ⟨h₁, gs, dr, _, os⟩) hS₁ hT fun tk tk' => ?_))
 have nd : (addsL [] (ofWords ws ws)).Nodup := by obtain ⟨_, _, _, _, _, nd, _⟩ := hT; exact nd
 rw [states_rests ok nd]
 refine PyProof.Rows.ne_int (wpAny_truthy_bool ?_)
 rw [if_neg (by rw [bne_self_eq_false]; exact Bool.false_ne_true)]
 exact wpAny_execs_nil (H g₁ h₁ tk' x₁.gg C₁)
theorem law_text_asked (kf : KFM K) (B : Base w K mg mb g) (hroom : A.depth + 3 < recursionLimit) (hh : A.handled = none) {W : Addr} {vs : Array Value} {ws : List (List Nat)} {d dx T Df F U : Addr} {D : Dfa} {x : List Nat} {tx : Tok} {Q : Flow → Shared → Prop}
  (C : Cur RO g₀ h₀ L g h m ow) (hm : m "words" = some (.ref W)) (hl : g.IsList W vs) (hs : StrsAre vs.toList (ws.map st)) (hd : m "dfa" = some (.ref d)) (I : DfaAt w g d dx T Df F U D) (ok : DfaOk D ws 8)
  (hx : CellE (L + 1 + 1) (some (.str (st x) tx)) ∈ ow)
  (H : ∀ g' h' t', Keep g g' → Cur RO g₀ h₀ L g' h' m ow → Q .next ⟨h', gs, dr, t', os⟩) :
  wpAny (model P w) (A.deeper (eLaw L)) (exec (lawSt 16) (eLaw L)) Q E ⟨h, gs, dr, t, os⟩ := by
 refine exE2 I.inst fun td nI I₀ => ?_
 refine wpAny_If (wpAny_isTrue_Compare1 (methE1 (env := eLaw L) C B.X hd I₀ kf.mAccept (by rfl) (nmC C hx (law_text L) ⟨B.X.keeps C.X.gh, ?_⟩)))
 refine accept_spec (A := A.deeper (eLaw L)) kf.toKF C.X.gh B (by show A.depth + 1 + 1 < _; lia) hh I ok.nz fun g₂ h₂ t₂ x₂ => ?_
 have C₂ := C.ro x₂
 refine wpAny_Compare1 (nmC C₂ hx (law_text L) (nmE C₂ hm (in_words (hl.at fun o e => C₂.X.gh _ _ (x₂.gg _ _ e)) hs ?_)))
 refine SeqAt.RcNeAt.bool_bool _ _ P w _ _ (wpAny_truthy_bool ?_)
 rw [ok.acc]
 simp only [beq_self_eq_true, Bool.not_true, Bool.false_eq_true, if_false]
 exact wpAny_execs_nil (H g₂ h₂ t₂ x₂.gg C₂)
end
end
section
open PySem PySem.W PyProof.Rows
noncomputable def notLess (x : List Nat) (v : Value) : Bool := match v with
 | .str y _ => !decide (y.cps.toList < x)
 | _ => false
theorem later_strs {x : List Nat} : ∀ {ws : List (List Nat)} {vs ys : List Value}, StrsAre vs (ws.map st) → Paired (fun v y => y = v) (vs.filter (notLess x)) ys → StrsAre ys ((ws.filter fun u => decide (x ≤ u)).map st)
 | [], vs, ys, hs, hF => by
  cases hs
  cases hF
  exact .nil
 | o :: ws, vs, ys, hs, hF => by
  rw [List.map_cons] at hs
  cases hs with
  | @cons _ t vs' _ hr =>
   have e : notLess x (.str (st o) t) = decide (x ≤ o) := by
    show (!decide ((st o).cps.toList < x)) = decide (¬ o < x)
    rw [show (st o).cps.toList = o by simp [st], Bool.eq_iff_iff]
    simp only [Bool.not_eq_true', decide_eq_false_iff_not, decide_eq_true_eq]
   rw [List.filter_cons, e] at hF
   rw [List.filter_cons]
   cases hb : decide (x ≤ o) with
   | true =>
    rw [hb] at hF
    simp only [if_true] at hF ⊢
    cases hF with
    | cons h1 h2 =>
     subst h1
     exact .cons _ t (later_strs hr h2)
   | false =>
    rw [hb] at hF
    simp only [Bool.false_eq_true, if_false] at hF ⊢
    exact later_strs hr hF
theorem find_filter {α : Type} (p : α → Bool) : ∀ l : List α, l.find? p = (l.filter p)[0]?
 | [] => rfl
 | a :: l => by
  rw [List.find?_cons, List.filter_cons]
  cases h : p a with
  | true => rfl
  | false => simpa using find_filter p l
section
variable {w : World} {A : Around} {E : Value → Shared → Prop} {K : Frag} {mg mb : Str → Option Value} {gs : Array GenState} {dr : Drawn} {t : Tok} {os : OsState} {L : Addr} {g₀ h₀ g h : Heap} {m : Str → Option Value} {ow : List Ent}
theorem law_later {W : Addr} {vs : Array Value} {ws : List (List Nat)} {x : List Nat} {tx : Tok} {Q : Flow → Shared → Prop} (hh : A.handled = none)
  (C : Cur RO g₀ h₀ L g h m ow) (hm : m "words" = some (.ref W)) (hl : g.IsList W vs) (hs : StrsAre vs.toList (ws.map st)) (hn : ws.length ≤ 1000) (hx : CellE (L + 1 + 1) (some (.str (st x) tx)) ∈ ow)
  (H : ∀ g' h' m' t' D ys, Keep g g' → Cur RO g₀ h₀ L g' h' m' ow → m' "later" = some (.ref D) → (∀ y : Str, y ≠ "later" → m' y = m y) → g'.IsList D ys → StrsAre ys.toList ((ws.filter fun u => decide (x ≤ u)).map st) → Q .next ⟨h', gs, dr, t', os⟩) :
  wpAny (model P w) (A.deeper (eLaw L)) (exec (lawSt 17) (eLaw L)) Q E ⟨h, gs, dr, t, os⟩ := by
 have hsz : vs.size = ws.length := by have := hs.length; simpa using this
 have hlh : h.IsList W vs := hl.at fun o e => C.X.gh _ _ e
 have cellT : ∀ h', Keep h h' → h'.IsCell (L + 1 + 1) (some (.str (st x) tx)) := fun h' k => (C.get (CellE (L + 1 + 1) (some (.str (st x) tx))) hx).keeps k
 refine compLA (env := eLaw L) (a := W) (items := vs) (cl := [("text", L + 1 + 1)]) (notLess x) (fun v y => y = v) C (by rfl) hh (fun Q' hq => nmE C hm (hq h t (Keep.refl _) hlh)) (by lia) (fun Cc i v s₃ m₃ E' hv hns hmv hk => ?_) (fun Cc i v s₃ m₃ E' hv hpv hns hmv hk => ?_) fun g' h' t' m' D ys kg' C' e1 e2 hD hF => ?_
 ·obtain ⟨h₃, gs₃, dr₃, t₃, os₃⟩ := s₃
  (refine exE2 (strsAt hs hv) fun o tx' zr2 => anE2 zr2 fun _ ze1 => ?_; clear zr2; subst ze1)
  refine wpAny_tests_one (wpAny_isTrue_Compare1 (ldVarK hns hmv (ldCellK rfl (cellT _ hk) (P.ge_str (wpAny_truthy_bool ⟨?_, h₃, t₃, rfl, fun _ _ e => e⟩)))))
  show (!decide ((st o).cps.toList < (st x).cps.toList)) = !decide ((st o).cps.toList < x)
  rw [show (st x).cps.toList = x by simp [st]]
 ·obtain ⟨h₃, gs₃, dr₃, t₃, os₃⟩ := s₃
  exact ldVarK hns hmv ⟨rfl, h₃, t₃, rfl, fun _ _ e => e⟩
 ·exact H g' h' m' t' D ys kg' C' e1 e2 hD (later_strs hs hF)
theorem law_last (kf : KFM K) (B : Base w K mg mb g) (hroom : A.depth + 5 < recursionLimit) (hh : A.handled = none) (hfr : A.frames = some []) {Lt : Addr} {ys : Array Value} {ws : List (List Nat)} {d dx T Df F U : Addr} {D : Dfa} {x : List Nat} {tx : Tok} {Q : Flow → Shared → Prop}
  (C : Cur RO g₀ h₀ L g h m (ow ++ [OutE w U])) (hm : m "later" = some (.ref Lt)) (hl : g.IsList Lt ys) (hs : StrsAre ys.toList ((ws.filter fun u => decide (x ≤ u)).map st)) (hn : ws.length ≤ 1000) (hd : m "dfa" = some (.ref d)) (I : DfaAt w g d dx T Df F U D) (ok : DfaOk D ws 8)
  (hx : CellE (L + 1 + 1) (some (.str (st x) tx)) ∈ ow) (hx5 : x.length ≤ 5) (hxc : ∀ c ∈ x, c ≤ 126)
  (H : ∀ h' t', Keep h₀ h' → Q (.ret (.bool true)) ⟨h', gs, dr, t', os⟩) :
  wpAny (model P w) (A.deeper (eLaw L)) (exec (lawSt 18) (eLaw L)) Q E ⟨h, gs, dr, t, os⟩ := by
 refine exE2 I.inst fun td nI I₀ => ?_
 have hysz : ys.size = (ws.filter fun u => decide (x ≤ u)).length := by have := hs.length; simpa using this
 have hyn : ys.size ≤ 1000 := by rw [hysz]; exact Nat.le_trans (List.length_filter_le _ _) hn
 have hfrs : ∀ b, frs [eLaw L] b ↔ b = L := fun b => by
  unfold frs
  show b ∈ [L] ↔ _
  simp
 have hsU : (U == sysModules) = false := by
  rw [beq_eq_false_iff_ne]
  intro z
  have := C.O.off (OutE w U) (memR mem0)
  rw [show (OutE w U).1 = U from rfl, z] at this
  exact B.sm this
 have C0 : Cur RO g₀ h₀ L g h m (ow ++ [OutD w U []]) := C
 refine wpAny_Return_some (wpAny_Compare1 (methE1 (env := eLaw L) C B.X hd I₀ kf.mNvs (by rfl) (nmC C (memL hx) (law_text L) ⟨B.X.keeps C.X.gh, ?_⟩)))
 obtain ⟨n, hn8, hw⟩ : ∃ n, n ≤ 20 ∧ (if D.fin (D.run 0 x) then (ws.find? fun u => decide (x ≤ u)) = some x else D.Seeks n (D.trail 0 [] x).reverse (ws.find? fun u => decide (x ≤ u))) := by
  have := ok.nvs x (fun c hc => Nat.le_trans (hxc c hc) (by decide)) (by lia)
  split at this
  ·rename_i h
   exact ⟨0, by decide, by rw [if_pos h]; exact this⟩
  ·rename_i h
   obtain ⟨n, h1, h2⟩ := this
   exact ⟨n, by lia, by rw [if_neg h]; exact h2⟩
 refine nvs_spec (A := A.deeper (eLaw L)) (outer := [eLaw L]) (fo := [FrE L m]) (kvs := []) kf.toKF9 C.X.gh B (by show A.depth + 1 + 2 < _; lia) hh (Around.frames_deeper hfr) (fun env me => ?_) I ok.nz ok.up hsU C0.ownL (fun q v e => by cases e) (by lia) hw (by simp; lia) fun g' h' t' v kvs' xx O' OK' hv => ?_
 ·rw [List.mem_singleton.mp me]
  exact ⟨(by show (fnOfSt (topSt 11)).scope.kind ≠ .module; decide), (exI2 L m ⟨rfl, (List.mem_singleton.mpr rfl)⟩)⟩
 have C' : Cur RO g₀ h₀ L g' h' m (ow ++ [OutD w U kvs']) := C0.callL xx (fun b v => by obtain ⟨e', me, z⟩ := v; exact ⟨e', me, z⟩) O' fun e' me => by
  rcases List.mem_cons.mp me with rfl | me
  ·exact .inl ⟨_, mem0, rfl⟩
  ·rw [List.mem_singleton.mp me]; exact .inl ⟨OutD w U [], by simp, rfl⟩
 have hlh : h'.IsList Lt ys := hl.at fun o e => C'.X.gh _ _ (xx.gg _ _ e)
 refine wpAny_IfExp (wpAny_isTrue_value (nmE C' hm (wpAny_truthy_list hlh (by lia) ?_)) (by rfl))
 rw [find_filter] at hv
 cases hws : (ws.filter fun u => decide (x ≤ u)) with
 | nil =>
  rw [hws] at hysz hv
  have e0 : ys.isEmpty = true := by simpa [Array.isEmpty] using hysz
  rw [e0]
  simp only [Bool.not_true, Bool.false_eq_true, if_false]
  cases hv
  exact wpAny_Constant_none (SeqAt.RcAt.none_none P w _ _ (H _ _ C'.X.keep))
 | cons u r =>
  rw [hws] at hysz hv hs
  have e0 : ys.isEmpty = false := by simp [Array.isEmpty, hysz]
  rw [e0]
  simp only [Bool.not_false, if_true]
  simp only [List.getElem?_cons_zero] at hv
  cases hv with
  | @some _ tv =>
   have zh3 : ∃ u' tu, (u :: r)[0]? = some u' ∧ ys[0]? = some (.str (st u') tu) := by
    obtain ⟨tu, htu⟩ := hs.get 0 (st u) rfl
    exact (exI2 u tu ⟨rfl, (by rw [← Array.getElem?_toList]; exact htu)⟩)
   refine exE2 zh3 fun u' tu zr4 => anE2 zr4 fun hu hval => ?_
   clear zh3 zr4
   cases hu
   refine wpAny_Subscript_Constant_late (nmE C' hm (kI' fun t1 t2 => ⟨"list", "list.__getitem__", slot_list_getitem.lookup, hlh.typeIs, wpAny_getItem_list hlh (Int.le_refl 0) (by decide) (x := .str (st u) tu) hval ?_⟩))
   refine SeqAt.RcAt.str_str _ _ _ _ P w _ _ ?_
   rw [beq_self_eq_true]
   exact H _ _ C'.X.keep
end
end
section
open PySem PySem.W PyProof.Rows
theorem lawRaw_len (ns : List Int) : (lawRaw ns).length ≤ 8 := by
 unfold lawRaw
 rw [List.length_map, List.length_take]
 exact Nat.min_le_left _ _
theorem lawRaw_words (ns : List Int) : ∀ w ∈ lawRaw ns, w.length ≤ 4 := fun w h => by
 obtain ⟨n, _, rfl⟩ := List.mem_map.mp h
 exact lawWord_len n 4
section
variable {w : World} {A : Around} {R : Result → Shared → Prop} {K : Frag} {mg mb : Str → Option Value} {gs : Array GenState} {dr : Drawn} {t : Tok} {os : OsState} {g h : Heap}
theorem law_spec (kf : KFM K) (gh : Keep g h) (B : Base w K mg mb g) (sr : g.NoSeer) (hroom : A.depth + 60 + Builtin.pylongFrames ≤ recursionLimit) (hu : A.units + 70 < cLine) (hh : A.handled = none) (hfr : A.frames = some [])
  {sa : Addr} {vs : List Value} {ns : List Int} (hl : g.IsList sa vs.toArray) (hi : IntsAre vs ns) (hn : ns.length ≤ 1000)
  (H : ∀ h' gs' dr' t', Keep h h' → (AllBare gs → AllBare gs') → R (.ok (.ret (.bool true))) ⟨h', gs', dr', t', os⟩) :
  codeAny (model P w) A (.call (.ref 301) ⟨[.ref sa], []⟩) R ⟨h, gs, dr, t, os⟩ := by
 refine enterLaw kf.fLaw gh B (by lia) fun h₁ L t₁ m₁ hsc C₁ => ?_
 (refine Exists.elim (build_ok (lawRaw ns) (lawRaw_len ns) fun w hw => Nat.le_trans (lawRaw_words ns w hw) (by decide)) fun r zr1 => anE3 zr1 fun hg hr hok => ?_; clear zr1)
 have hlenR := lawRaw_len ns
 refine wpAny_execs_cons (law_raw kf.toKFL B sr (by lia) hh hfr C₁ hsc hl hi hn fun g₂ h₂ m₂ t₂ D rs k₂ C₂ hraw o₂ hlD hsD => ?_)
 refine wpAny_execs_cons (law_refused C₂ fun h₃ m₃ t₃ C₃ href o₃ => ?_)
 refine wpAny_execs_cons (law_try kf (B.keeps k₂) (by lia) hu hh hfr C₃ ((o₃ _ (by decide)).trans hraw) href hlD hsD hg (fun s e => by obtain ⟨a, b, _⟩ := hok s e; exact ⟨a, b⟩) fun g₄ h₄ m₄ t₄ k₄ C₄ href₄ o₄ => ?_)
 have raw₄ : m₄ "raw" = some (.ref D) := (o₄ _ (by decide)).trans ((o₃ _ (by decide)).trans hraw)
 have scr₄ : m₄ "script" = some (.ref sa) := (o₄ _ (by decide)).trans ((o₃ _ (by decide)).trans ((o₂ _ (by decide)).trans hsc))
 refine wpAny_execs_cons (law_order kf (B.keeps (k₂.trans k₄)) hu hh C₄ raw₄ href₄ (hlD.at fun o e => k₄ _ _ e) hsD (by lia) (by rw [decide_eq_true_iff]; exact hr) fun g₅ h₅ t₅ k₅ C₅ => ?_)
 have kk₅ := k₂.trans (k₄.trans k₅)
 refine wpAny_execs_cons (law_words kf (B.keeps kk₅) hh C₅ raw₄ (hlD.at fun o e => k₅ _ _ (k₄ _ _ e)) hsD (by lia) fun g₆ h₆ dr₆ m₆ t₆ W wv ws k₆ C₆ hw₆ o₆ hlW hsW ho hsub hlenW => ?_)
 have kk₆ := kk₅.trans k₆
 have hws4 : ∀ w ∈ ws, w.length ≤ 4 := fun w hw => lawRaw_words ns w (hsub w hw)
 have hws8 : ws.length ≤ 8 := Nat.le_trans hlenW hlenR
 refine wpAny_execs_cons (law_dfa kf (B.keeps kk₆) (by lia) hu hh hfr C₆ hw₆ hlW hsW ho hws8 (fun w hw => Nat.le_trans (hws4 w hw) (by decide)) fun g₇ h₇ m₇ t₇ d dx T Df F U Da k₇ ok I C₇ hd₇ o₇ => ?_)
 have kk₇ := kk₆.trans k₇
 have scr₇ : m₇ "script" = some (.ref sa) := (o₇ _ (by decide)).trans ((o₆ _ (by decide)).trans scr₄)
 have wrd₇ : m₇ "words" = some (.ref W) := (o₇ _ (by decide)).trans hw₆
 refine wpAny_execs_cons (law_number C₇ scr₇ (hl.at fun o e => kk₇ _ _ e) hi hn fun h₈ m₈ t₈ n₈ tn₈ C₈ hn₈ o₈ => ?_)
 refine wpAny_execs_cons (law_signs kf (B.keeps kk₇) C₈ fun g₉ h₉ m₉ t₉ S sv k₉ C₉ hS₉ o₉ hlS hsv => ?_)
 have kk₉ := kk₇.trans k₉
 refine wpAny_execs_cons (law_empty C₉ fun h₁₀ t₁₀ tx C₁₀ => ?_)
 refine wpAny_execs_cons (law_size C₁₀ ((o₉ _ (by decide)).trans hn₈) fun h₁₁ m₁₁ t₁₁ k tk hk6 C₁₁ hsz o₁₁ => ?_)
 refine wpAny_execs_cons (law_number2 (B.keeps kk₉) (sr.keeps kk₉) (by lia) hfr C₁₁ ((o₁₁ _ (by decide)).trans ((o₉ _ (by decide)).trans hn₈)) fun h₁₂ m₁₂ t₁₂ n₁₂ tn₁₂ C₁₂ hn₁₂ o₁₂ => ?_)
 refine wpAny_execs_cons (law_made kf (B.keeps kk₉) (sr.keeps kk₉) (by lia) hh hfr C₁₂ hn₁₂ ((o₁₂ _ (by decide)).trans hsz) hk6 ((o₁₂ _ (by decide)).trans ((o₁₁ _ (by decide)).trans hS₉)) hlS hsv fun g₁₃ h₁₃ m₁₃ t₁₃ x tx₁₃ vp₁₃ k₁₃ hx5 hxc C₁₃ o₁₃ => ?_)
 have kk₁₃ := kk₉.trans k₁₃
 have back : ∀ y : Str, y ≠ "number" → y ≠ "size" → y ≠ "signs" → m₁₃ y = m₇ y := fun y a b c => (o₁₃ y a).trans ((o₁₂ y a).trans ((o₁₁ y b).trans ((o₉ y c).trans (o₈ y a))))
 have wrd₁₃ := (back "words" (by decide) (by decide) (by decide)).trans wrd₇
 have dfa₁₃ := (back "dfa" (by decide) (by decide) (by decide)).trans hd₇
 have kW : Keep g₆ g₁₃ := (k₇.trans k₉).trans k₁₃
 have kI : Keep g₇ g₁₃ := k₉.trans k₁₃
 refine wpAny_execs_cons (law_gen kf (B.keeps kk₁₃) (by lia) hu hh C₁₃ wrd₁₃ (hlW.at fun o e => kW _ _ e) hsW hws8 dfa₁₃ (I.keeps kI) ok fun g₁₄ h₁₄ gs₁₄ t₁₄ k₁₄ hb₁₄ C₁₄ => ?_)
 have kk₁₄ := kk₁₃.trans k₁₄
 refine wpAny_execs_cons (law_rests kf (B.keeps kk₁₄) C₁₄ fun h₁₅ m₁₅ t₁₅ Sr es ep tb hT C₁₅ hr₁₅ o₁₅ => ?_)
 have wrd₁₅ := (o₁₅ "words" (by decide)).trans wrd₁₃
 have dfa₁₅ := (o₁₅ "dfa" (by decide)).trans dfa₁₃
 have C₁₅' : Cur RO g h L g₁₄ h₁₅ m₁₅ (CellE (L + 1) _ :: SetE' Sr es ep tb :: CellE (L + 1 + 1 + 1) vp₁₃ :: [CellE (L + 1 + 1) (some (.str (st x) tx₁₃)), OutE w U]) := C₁₅.perm ((List.Perm.swap _ _ _).trans (.cons _ (.cons _ (List.Perm.swap _ _ _))))
 refine wpAny_execs_cons (law_loops (rest := [CellE (L + 1 + 1) (some (.str (st x) tx₁₃)), OutE w U]) kf (B.keeps kk₁₄) (by lia) hu hh C₁₅' wrd₁₅ (hlW.at fun o e => k₁₄ _ _ (kW _ _ e)) hsW hr₁₅ hT dfa₁₅ ((I.keeps kI).keeps k₁₄) ok hws4 hws8 fun g₁₆ h₁₆ t₁₆ es₁₆ ep₁₆ tb₁₆ vw₁₆ vp₁₆ k₁₆ hT₁₆ C₁₆ => ?_)
 have kk₁₆ := kk₁₄.trans k₁₆
 refine wpAny_execs_cons (law_count kf (B.keeps kk₁₆) (by lia) hh C₁₆ (.tail _ mem0) hr₁₅ hT₁₆ dfa₁₅ (((I.keeps kI).keeps k₁₄).keeps k₁₆) ok fun g₁₇ h₁₇ t₁₇ k₁₇ C₁₇ => ?_)
 have kk₁₇ := kk₁₆.trans k₁₇
 have kW₁₇ : Keep g₆ g₁₇ := (kW.trans k₁₄).trans (k₁₆.trans k₁₇)
 have kI₁₇ : Keep g₇ g₁₇ := (kI.trans k₁₄).trans (k₁₆.trans k₁₇)
 have mx : ∀ {a b c : Ent}, CellE (L + 1 + 1) (some (.str (st x) tx₁₃)) ∈ [a, b, c, CellE (L + 1 + 1) (some (.str (st x) tx₁₃)), OutE w U] := fun {a b c} => List.mem_cons_of_mem _ (.tail _ (.tail _ mem0))
 refine wpAny_execs_cons (law_text_asked kf (B.keeps kk₁₇) (by lia) hh C₁₇ wrd₁₅ (hlW.at fun o e => kW₁₇ _ _ e) hsW dfa₁₅ (I.keeps kI₁₇) ok mx fun g₁₈ h₁₈ t₁₈ k₁₈ C₁₈ => ?_)
 refine wpAny_execs_cons (law_later hh C₁₈ wrd₁₅ (hlW.at fun o e => k₁₈ _ _ (kW₁₇ _ _ e)) hsW (by lia) mx fun g₁₉ h₁₉ m₁₉ t₁₉ Lt ys k₁₉ C₁₉ hlt o₁₉ hlL hsL => ?_)
 have kk₁₉ := (kk₁₇.trans k₁₈).trans k₁₉
 refine wpAny_execs_cons (law_last (ow := [CellE (L + 1) vw₁₆, SetE' Sr es₁₆ ep₁₆ tb₁₆, CellE (L + 1 + 1 + 1) vp₁₆, CellE (L + 1 + 1) (some (.str (st x) tx₁₃))]) kf (B.keeps kk₁₉) (by lia) hh hfr C₁₉ hlt hlL hsL (by lia) ((o₁₉ _ (by decide)).trans dfa₁₅) (I.keeps ((kI₁₇.trans k₁₈).trans k₁₉)) ok (.tail _ (.tail _ (.tail _ mem0))) hx5 hxc fun h' t' kf' => ?_)
 exact H h' _ _ t' kf' hb₁₄
end
end
section
set_option maxRecDepth 1000000
open PySem PySem.W PyProof.Rows
noncomputable def fragN (h : Heap) : Frag := (List.range 310).filterMap fun a => (h.get? a).map fun o => (a, o)
theorem look_mem {a : Addr} {o : Obj} : ∀ {K : Frag}, K.lookup a = some o → (a, o) ∈ K
 | (b, x) :: r, e => by
  rw [List.lookup_cons] at e
  cases hb : a == b with
  | true => rw [hb] at e; cases e; rw [beq_iff_eq.mp hb]; exact mem0
  | false => rw [hb] at e; exact List.mem_cons_of_mem _ (look_mem e)
theorem fragN_in (h : Heap) : (fragN h).In h := fun a o e => by
 obtain ⟨b, _, hb⟩ := List.mem_filterMap.mp (look_mem e)
 cases q : h.get? b with
 | none => rw [q] at hb; cases hb
 | some o' => rw [q] at hb; cases hb; exact q
noncomputable def bareF (o : Obj) : Obj := match o.data with
 | .func fd => { o with data := .func { fd with pyModule := .none } }
 | _ => o
structure FnRow where
 f : Addr
 cd : Addr
 name : Str
 qual : Str
 st : Stmt
 dV : Value
noncomputable def fnTab : List FnRow := [
 ⟨170, 169, "start", "DFA.start", clsSt 5 1, .none⟩, ⟨198, 197, "is_final", "DFA.is_final", clsSt 5 5, .none⟩, ⟨205, 204, "next_state", "DFA.next_state", clsSt 5 6, .none⟩, ⟨135, 134, "accept", "FSA.accept", clsSt 4 13, .ref 128⟩,
 ⟨177, 176, "add_transition", "DFA.add_transition", clsSt 5 2, .none⟩, ⟨191, 190, "add_final_state", "DFA.add_final_state", clsSt 5 4, .none⟩, ⟨268, 267, "as_tuple", "DMNode.as_tuple", clsSt 6 1, .none⟩,
 ⟨220, 219, "find_next_edge", "DFA.find_next_edge", clsSt 5 8, .none⟩, ⟨213, 212, "next_valid_string", "DFA.next_valid_string", clsSt 5 7, .ref 206⟩, ⟨77, 76, "get_labels", "FSA.get_labels", clsSt 4 5, .none⟩,
 ⟨85, 84, "generate_all", "FSA.generate_all", clsSt 4 6, .ref 78⟩, ⟨63, 62, "all_states", "FSA.all_states", clsSt 4 3, .none⟩,
 ⟨261, 260, "__init__", "DMNode.__init__", clsSt 6 0, .none⟩, ⟨163, 162, "__init__", "DFA.__init__", clsSt 5 0, .none⟩,
 ⟨289, 288, "add_suffix", "add_suffix", topSt 8, .none⟩, ⟨282, 281, "strings_dfa", "strings_dfa", topSt 7, .none⟩, ⟨28, 27, "bisect_left", "bisect_left", topSt 2, .none⟩, ⟨296, 295, "_law_word", "_law_word", topSt 10, .none⟩, ⟨301, 300, "law", "law", topSt 11, .none⟩]
noncomputable def fnSeen (K : Frag) (r : FnRow) := ((K.lookup r.f).map bareF, codeIn K (.ref r.cd) r.qual, keepIn K (.ref r.f), isFn K (.ref r.f), typeIn K (.ref r.f))
noncomputable def fnGood (r : FnRow) : Option Obj × Bool × Bool × Bool × Option Value :=
 (some ⟨.type "function", none, .func (fnOf r.name r.qual (fnOfSt r.st).params (fnOfSt r.st).body (fnOfSt r.st).scope r.dV .none .none .none none (.ref r.cd) .none), #[]⟩, true, true, true, some (.type "function"))
noncomputable def methTab : List (Addr × Str × Addr) := [(245, "start", 170), (245, "is_final", 198), (245, "next_state", 205), (245, "accept", 135), (245, "add_transition", 177), (245, "add_final_state", 191), (271, "as_tuple", 268), (245, "find_next_edge", 220), (245, "next_valid_string", 213), (245, "get_labels", 77), (245, "generate_all", 85), (245, "all_states", 63)]
noncomputable def methSeen (K : Frag) (r : Addr × Str × Addr) := (plainGet K r.1 r.2.1, findIn K (.ref r.1) r.2.1)
noncomputable def methGood (r : Addr × Str × Addr) : Bool × Option (Option Value) := (true, some (some (.ref r.2.2)))
noncomputable def attrTab : List (Addr × Str) := [(245, "initial"), (245, "transitions"), (245, "defaults"), (245, "final_states"), (245, "outlabels"), (271, "n"), (271, "arcs"), (271, "final")]
noncomputable def attrSeen (K : Frag) (r : Addr × Str) := (plainGet K r.1 r.2, findIn K (.ref r.1) r.2, takerIn K r.1 r.2)
noncomputable def attrGood (_ : Addr × Str) : Bool × Option (Option Value) × Option (Option Value) := (true, some none, some none)
noncomputable def globTab : List (Str × Option Value) := ([("DMNode", some (.ref 271)), ("DFA", some (.ref 245)), ("add_suffix", some (.ref 289)), ("bisect_left", some (.ref 28)), ("_law_word", some (.ref 296)), ("strings_dfa", some (.ref 282)), ("law", some (.ref 301))] : List (Str × Option Value)) ++ builtNames.map fun n => (n, none)
noncomputable def clsTab : List (Addr × Addr) := [(271, 261), (245, 163)]
noncomputable def clsSeen' (K : Frag) (r : Addr × Addr) := (makesIn K r.1, findIn K (.ref r.1) "__init__", keepIn K (.ref r.1), findIn K (.ref r.1) "__setattr__", plainOver K r.1, hasDictIn K r.1)
noncomputable def clsGood' (r : Addr × Addr) : Bool × Option (Option Value) × Bool × Option (Option Value) × Bool × Bool := (true, some (some (.ref r.2)), true, some (some (.builtin "object.__setattr__")), true, true)
noncomputable def dfltTab : List (Addr × Array Value) := [(128, #[.bool false]), (78, #[.none, .str "" 270]), (206, #[.bool false])]
noncomputable def kSeen (K : Frag) := (fnTab.map (fnSeen K), methTab.map (methSeen K), attrTab.map (attrSeen K), globTab.map (fun r => nsIn K mainGlobals r.1), clsTab.map (clsSeen' K), dfltTab.map (fun r => (K.lookup r.1).map (·.data)), (K.lookup sysModules).isSome)
noncomputable def kGood := (fnTab.map fnGood, methTab.map methGood, attrTab.map attrGood, globTab.map (fun r => some r.2), clsTab.map clsGood', dfltTab.map (fun r => some (Data.seq r.2 0)), true)
noncomputable def putPm (p : Value) (x : Obj) : Obj := match x.data with
 | .func fd => { x with data := .func { fd with pyModule := p } }
 | _ => x
theorem hasFn_of {K : Frag} {r : FnRow} (e : fnSeen K r = fnGood r) : HasFn K r.f r.name r.qual (fnOfSt r.st) r.dV (.ref r.cd) := by
 have e1 := congrArg (fun x => x.1) e
 refine ⟨?_, congrArg (fun x => x.2.1) e⟩
 clear e
 dsimp only [fnSeen, fnGood] at e1
 cases q : K.lookup r.f with
 | none => rw [q] at e1; cases e1
 | some o =>
  rw [q] at e1
  have e3 := Option.some.inj e1
  clear e1
  obtain ⟨c, d, dt, sl⟩ := o
  cases dt with
  | func fd => exact ⟨fd.pyModule, congrArg (fun x => some (putPm fd.pyModule x)) e3⟩
  | _ => exact absurd (congrArg Obj.data e3) (by intro z; cases z)
theorem law_of {K : Frag} (e : kSeen K = kGood) : nsIn K mainGlobals "law" = some (some (.ref 301)) ∧ ∃ o, K.lookup sysModules = some o := by
 have e4 : ∀ r ∈ globTab, nsIn K mainGlobals r.1 = some r.2 := List.map_inj_left.mp (congrArg (fun x => x.2.2.2.1) e)
 have e7 : (K.lookup sysModules).isSome = true := congrArg (fun x => x.2.2.2.2.2.2) e
 exact ⟨e4 _ (List.mem_of_getElem? (i := 6) rfl), Option.isSome_iff_exists.mp e7⟩
theorem kfm_of {K : Frag} (e : kSeen K = kGood) : KFM K := by
 have e1 : ∀ r ∈ fnTab, fnSeen K r = fnGood r := List.map_inj_left.mp (congrArg (fun x => x.1) e)
 have e2 : ∀ r ∈ methTab, methSeen K r = methGood r := List.map_inj_left.mp (congrArg (fun x => x.2.1) e)
 have e3 : ∀ r ∈ attrTab, attrSeen K r = attrGood r := List.map_inj_left.mp (congrArg (fun x => x.2.2.1) e)
 have e4 : ∀ r ∈ globTab, nsIn K mainGlobals r.1 = some r.2 := List.map_inj_left.mp (congrArg (fun x => x.2.2.2.1) e)
 have e5 : ∀ r ∈ clsTab, clsSeen' K r = clsGood' r := List.map_inj_left.mp (congrArg (fun x => x.2.2.2.2.1) e)
 have e6 : ∀ r ∈ dfltTab, (K.lookup r.1).map (·.data) = some (Data.seq r.2 0) := List.map_inj_left.mp (congrArg (fun x => x.2.2.2.2.2.1) e)
 clear e
 have fn : ∀ (i : Nat) r, fnTab[i]? = some r → HasFn K r.f r.name r.qual (fnOfSt r.st) r.dV (.ref r.cd) := fun i r h => hasFn_of (e1 r (List.mem_of_getElem? h))
 have kp : ∀ (i : Nat) r, fnTab[i]? = some r → keepIn K (.ref r.f) = true := fun i r h => congrArg (fun x => x.2.2.1) (e1 r (List.mem_of_getElem? h))
 have isf : ∀ (i : Nat) r, fnTab[i]? = some r → isFn K (.ref r.f) = true := fun i r h => congrArg (fun x => x.2.2.2.1) (e1 r (List.mem_of_getElem? h))
 have ity : ∀ (i : Nat) r, fnTab[i]? = some r → typeIn K (.ref r.f) = some (.type "function") := fun i r h => congrArg (fun x => x.2.2.2.2) (e1 r (List.mem_of_getElem? h))
 have mt : ∀ (i j : Nat) r C, fnTab[i]? = some r → methTab[j]? = some (C, r.name, r.f) → Meth K C r.name r.qual r.f r.cd r.st r.dV := fun i j r C h1 h2 =>
  ⟨fn i r h1, congrArg (fun x => x.1) (e2 _ (List.mem_of_getElem? h2)), congrArg (fun x => x.2) (e2 _ (List.mem_of_getElem? h2)), isf i r h1, kp i r h1⟩
 have at1 : ∀ C n, (C, n) ∈ attrTab → plainGet K C n = true ∧ findIn K (.ref C) n = some none := fun C n h => ⟨congrArg (fun x => x.1) (e3 _ h), congrArg (fun x => x.2.1) (e3 _ h)⟩
 have at2 : ∀ C n, (C, n) ∈ attrTab → takerIn K C n = some none := fun C n h => congrArg (fun x => x.2.2) (e3 _ h)
 have gl : ∀ (i : Nat) r, globTab[i]? = some r → nsIn K mainGlobals r.1 = some r.2 := fun i r h => e4 r (List.mem_of_getElem? h)
 have c0 := e5 (271, 261) mem0
 have c1 := e5 (245, 163) (.tail _ mem0)
 have names : ∀ n ∈ builtNames, nsIn K mainGlobals n = some none := fun n h => e4 (n, none) (memR (List.mem_map_of_mem h))
 have dfl : ∀ (i : Nat) r, dfltTab[i]? = some r → ∃ o, K.lookup r.1 = some o ∧ o.data = .seq r.2 0 := fun i r h => by
  have := e6 r (List.mem_of_getElem? h)
  cases q : K.lookup r.1 with
  | none => rw [q] at this; cases this
  | some o => rw [q] at this; exact ⟨o, rfl, Option.some.inj this⟩
 clear e1 e2 e3 e4 e5 e6
 have mk : ∀ C f (i : Nat) r ns, clsSeen' K (C, f) = clsGood' (C, f) → fnTab[i]? = some r → r.f = f → r.name = "__init__" → r.dV = .none → (∀ n ∈ ns, (C, n) ∈ attrTab) → MkF K C r.qual f r.cd r.st ns := fun C f i r ns hc h hf hn hd ha => by
  subst hf
  have F := fn i r h
  rw [hn, hd] at F
  exact ⟨congrArg (fun x => x.1) hc, congrArg (fun x => x.2.1) hc, ity i r h, F, congrArg (fun x => x.2.2.1) hc, congrArg (fun x => x.2.2.2.1) hc, congrArg (fun x => x.2.2.2.2.1) hc, congrArg (fun x => x.2.2.2.2.2) hc, fun n hn => at2 C n (ha n hn)⟩
 obtain ⟨o0, d0, d0'⟩ := dfl 0 _ rfl
 obtain ⟨o1, d1, d1'⟩ := dfl 1 _ rfl
 obtain ⟨o2, d2, d2'⟩ := dfl 2 _ rfl
 have k1 : KF K := ⟨mt 0 0 _ _ rfl rfl, mt 1 1 _ _ rfl rfl, mt 2 2 _ _ rfl rfl, mt 3 3 _ _ rfl rfl, congrArg (fun x => x.2.2.2.2.2) c1, (exI2 o0 0 ⟨d0, d0'⟩), fun n h => at1 _ _ (by revert n h; decide +kernel)⟩
 have k2 : KF2 K := ⟨k1, mk _ _ 12 _ _ c0 rfl rfl rfl rfl (by decide +kernel), mk _ _ 13 _ _ c1 rfl rfl rfl rfl (by decide +kernel), gl 0 _ rfl, gl 1 _ rfl, names "set" (by decide)⟩
 have k3 : KF3 K := ⟨k2, mt 4 4 _ _ rfl rfl, mt 5 5 _ _ rfl rfl⟩
 have k4 : KF4 K := ⟨k3, names, mt 6 6 _ _ rfl rfl, congrArg (fun x => x.2.2.2.2.2) c0, fun n h => at1 _ _ (by revert n h; decide +kernel)⟩
 have k5 : KF5 K := ⟨k4, fn 14 _ rfl, kp 14 _ rfl, gl 2 _ rfl⟩
 have k6 : KF6 K := ⟨k5, fn 15 _ rfl⟩
 have k7 : KF7 K := ⟨k6, fn 16 _ rfl, kp 16 _ rfl, gl 3 _ rfl⟩
 have k8 : KF8 K := ⟨k7, mt 7 7 _ _ rfl rfl⟩
 have k9 : KF9 K := ⟨k8, mt 8 8 _ _ rfl rfl, (exI2 o2 0 ⟨d2, d2'⟩)⟩
 have k10 : KF10 K := ⟨k9, mt 9 9 _ _ rfl rfl⟩
 have k11 : KF11 K := ⟨k10, fn 17 _ rfl, kp 17 _ rfl, gl 4 _ rfl⟩
 have k12 : KF12 K := ⟨k11, mt 10 10 _ _ rfl rfl, (exI3 o1 0 270 ⟨d1, d1'⟩)⟩
 have k13 : KF13 K := ⟨k12, mt 11 11 _ _ rfl rfl⟩
 exact ⟨⟨k13, fn 18 _ rfl⟩, kp 15 _ rfl, gl 5 _ rfl⟩
end
section
set_option maxRecDepth 1000000
open PySem PySem.W PyProof.Rows
noncomputable def qv : Program := view P [0,1,2,3,6,7,8,9,10,11]
theorem left : LeftO P qv ["FSA", "DFA"] (fun s => xlAt qv [] s && recOk [] s) (fun s => kSeen (fragN s.heap)) (fun _ => kGood) 4000 := fun w => by kernel_rfl
end
section
set_option maxRecDepth 1000000
open PySem PySem.W PyProof.Rows
noncomputable def says (h : Heap) : Prop := ∃ K : Frag, K.In h ∧ KFM K ∧ nsIn K mainGlobals "law" = some (some (.ref 301)) ∧ ∃ o, K.lookup sysModules = some o
theorem says_of (s : Shared) (e : kSeen (fragN s.heap) = kGood) : says s.heap := ⟨_, fragN_in _, kfm_of e, law_of e⟩
theorem says_keeps {h h' : Heap} (x : says h) (k : ∀ b o, h.get? b = some o → h'.get? b = some o) : says h' := by obtain ⟨K, a, b⟩ := x; exact ⟨K, a.keeps k, b⟩
theorem ints_of {h : Heap} {cl : PySem.Str → Option Addr} : ∀ {xs : List WData} {vs : List Value} {as : List Addr}, WShape.hasItems [] xs .int = true → ReadsAllW [] cl h vs xs as → ∃ ns, IntsAre vs ns ∧ ns.length = xs.length
 | [], vs, as, _, hr => by
  obtain ⟨rfl, _⟩ := readsAllW_nil_inv hr
  exact ⟨[], .nil, rfl⟩
 | d :: xs, vs, as, hs, hr => by
  unfold WShape.hasItems at hs
  obtain ⟨h1, h2⟩ := Bool.and_eq_true_iff.mp hs
  obtain ⟨i, rfl⟩ := hasW_int h1
  (refine exE4 (readsAllW_cons_inv hr) fun v vs' a1 a2 zr2 => anE4 zr2 fun ze1 _ r1 r2 => ?_; clear zr2; subst ze1)
  obtain ⟨t, rfl, _⟩ := readsW_int_inv r1
  obtain ⟨ns, b1, b2⟩ := ints_of h2 r2
  exact ⟨i :: ns, .cons i t b1, by simp [b2]⟩
theorem call_law (d : DefRec) (kwd : List (PySem.Str × Expr)) (hn : d.name = "law") (loose : List PySem.Str) : WalkO qv loose (XL qv []) (fun _ h => says h) PySem.Challenge.rw_iu0051_01.row.toRowW d kwd (fun f vs => PySem.call f vs) := by
 intro w s₀ s₁ mg mb G Y fa o pm cd doc dV kV ho hd hcd hD hmg hg args vals as hpre hlay hrd hwl hlo
 clear ho hd hcd hD
 rw [hn] at hmg
 obtain ⟨K, X, kf, hlaw, osys, hsys⟩ := Y
 have T := G.T
 have e1 := (mg_of X T.g hlaw)
 rw [hmg] at e1
 cases e1
 have hsh := (pre_splitW hpre).1
 have hcond := (pre_splitW hpre).2
 clear hpre
 (refine exE2 (hasAllW_cons (R := []) (es := []) (e := .list .int) hsh) fun dd r zr4 => anE3 zr4 fun ze3 h1 h2 => ?_; clear zr4; subst ze3)
 obtain rfl := hasAllW_nil h2
 obtain ⟨xs, rfl, hx⟩ := hasW_list h1
 (refine exE4 (readsAllW_cons_inv (R := []) hrd) fun v vs' a1 a2 zr6 => anE4 zr6 fun ze5 _ r1 r2 => ?_; clear zr6; subst ze5)
 obtain ⟨rfl, _⟩ := readsAllW_nil_inv r2
 (refine exE3 (readsW_list_inv r1) fun sa sv as' zr8 => anE4 zr8 fun ze7 hl hr _ => ?_; clear zr8; subst ze7)
 obtain ⟨ns, hi, hlen⟩ := ints_of hx hr
 have hn63 : xs.length ≤ 63 := by
  w_cond hcond
  lia
 have B : Base w K mg mb s₁.heap := ⟨X, T.g, T.b, T.nolimit, T.builtins, by rw [X _ _ hsys]; exact Option.some_ne_none _⟩
 have sr : s₁.heap.NoSeer := T.seer (by decide +kernel)
 have hl' : s₁.heap.IsList sa sv.toList.toArray := by simpa using hl
 obtain ⟨h₁, gs₁, dr₁, t₁, os₁⟩ := s₁
 obtain rfl : gs₁ = #[] := hg
 refine enter_call ?_
 refine law_spec (A := callerA) kf (Keep.refl _) B sr (by decide) (by decide) rfl rfl hl' hi (by lia) fun h' gs' dr' t' k hb => ?_
 refine ⟨.inl (exI3 (.bool true) (.bool true) ([]) (anI5 rfl (fun cls => ?_) ?_ ?_ (fun _ => ⟨List.nodup_nil, fun a m => absurd m List.not_mem_nil⟩))), .of_keep k, rfl, hb AllBare.empty⟩
 ·rfl
 ·exact .bool true
 ·wrow_post
set_option maxHeartbeats 8000000 in
theorem holds : PySem.Challenge.rw_iu0051_01.Holds := by
 refine holds_law (by kernel_rfl) fun said => ?_
 refine holds_open (q := qv) (loose := ["FSA", "DFA"]) (Xt := fun s => xlAt qv [] s && recOk [] s) (XP := XL qv []) (Yf := fun s => kSeen (fragN s.heap)) (Ya := fun _ => kGood) (YP := fun _ h => says h) (N := 4000) left (fun w s e => says_of s e) (fun w h h' x k => says_keeps x k)
  (fun s e => xl_of s (Bool.and_eq_true_iff.mp e).1) XL.keeps (by rfl) (by rfl) (by rfl) (fun s e => recFacts_of (Bool.and_eq_true_iff.mp e).2) (by rfl) (by first | assumption | decide +kernel) (by decide +kernel) ⟨rfl, rfl, rfl, rfl, rfl, by decide +kernel⟩ ?hw ?hc
 case hw => w_witness2
 case hc => exact call_law _ _ rfl _
end
end Mine
theorem PySem.Challenge.cw_iu0051_01_holds : PySem.Challenge.rw_iu0051_01.Holds :=
  Mine.holds
