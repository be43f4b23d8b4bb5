import PyProof.Rows.All
import Wide.All
import OpenK.AllK
import Wide.FinOn
import Lean
import PySem.Challenge.RW_sw0064_01
set_option Elab.async false
set_option maxRecDepth 100000
set_option maxHeartbeats 8000000
set_option compiler.extract_closed false
section
open PySem PySem.W PyProof.Rows
namespace Mine
/-- the text's opening ends in the library's booted state -/
theorem opens_booted {N : Nat} (hN : Nat.ble 600 N = true) : ∀ w, (fencedOpening treeTable PySem.Challenge.pw_sw0064_01 w N).map (fun s => (s.heap, s.gens, s.drawn, s.toks)) = some (boot_heap w.params, Array.mk [], boot_drawn, boot_toks) :=
  boot_open (by kernel_rfl) hN (fun s => by kernel_rfl)
/-- the top's run from a state on, with the library's quick twins of topRun and of the table (the text takes in no module: []) -/
noncomputable abbrev RunQ (p : Program) (w : World) (N : Nat) (s₀ : Shared) : Option Shared :=
  match s₀.heap.isNs mainGlobals && s₀.gens.size == 0 with
  | true => (PySem.W.Fast.tw14082659384304107361 PySem.W.Fast.tw14364793385576792824 p w s₀.heap.objs.size (s₀.heap.nsMap mainGlobals "__annotations__") N s₀ (topStub p)).bind fun s₁ =>
      match staticsOk [] s₀.heap s₁.heap && namesBound p s₁.heap && gensDone s₁ && laidKept s₀.heap s₁.heap with
      | true => some s₁
      | false => none
  | false => none
theorem runQ_eq (w : World) (N : Nat) (s₀ : Shared) : topFrom treeTable PySem.Challenge.pw_sw0064_01 w N s₀ = RunQ PySem.Challenge.pw_sw0064_01 w N s₀ := by
  unfold topFrom RunQ
  rw [PySem.W.Fast.te14082659384304107361, PySem.W.Fast.te14364793385576792824]
  kernel_rfl
/-- what the head asks of the top's run, from the booted state on and by the quick twins: the kernel proves it at once in 13 s and with 1.4 GB (as the head says it, in one check: 27 s, 3.2 GB; in pieces the compiled file is 15 MB longer) -/
abbrev LeftX (q : Program) (loose : List Str) (Xt : Shared → Bool) {α : Type} (Yf : Shared → α) (Ya : World → α) (N : Nat) : Prop :=
  ∀ w : World, (Nat.ble 600 N, fun os => (RunQ PySem.Challenge.pw_sw0064_01 w N ⟨boot_heap w.params, Array.mk [], boot_drawn, boot_toks, os⟩).map fun s => (PySem.W.Fast.tw4187177175401517315 q loose [] Xt true s, Yf s)) = (true, fun _ => some (openGood q loose, Ya w))
theorem leftX {q : Program} {loose : List Str} {Xt : Shared → Bool} {α : Type} {Yf : Shared → α} {Ya : World → α} {N : Nat} (left : LeftX q loose Xt Yf Ya N) : LeftO PySem.Challenge.rw_sw0064_01.row.prog q loose Xt Yf Ya N := fun w => by
  obtain ⟨hN, hr⟩ := Prod.mk.inj (left w)
  obtain ⟨⟨h, gs, d, k, os⟩, e, e'⟩ := Option.map_eq_some_iff.mp (opens_booted hN w)
  obtain ⟨rfl, rfl, rfl, rfl⟩ : h = boot_heap w.params ∧ gs = Array.mk [] ∧ d = boot_drawn ∧ k = boot_toks := by simpa using e'
  show (openEnds treeTable PySem.Challenge.pw_sw0064_01 w N).map (fun s => (openSeen q loose [] Xt true s, Yf s)) = _
  unfold openEnds
  rw [e, Option.bind_some, runQ_eq, PySem.W.Fast.te4187177175401517315]
  exact congrFun hr os
end Mine
/-- the head's lemma, its first premise said as above -/
def Mine.PySem.W.holds_open {q : Program} {loose : List Str} {Xt : Shared → Bool} {XP : (Str → Option Value) → Heap → Prop} {α : Type} {Yf : Shared → α} {Ya : World → α} {YP : World → Heap → Prop} {d : DefRec} {kwd : List (Str × Expr)} {N : Nat}
    (left : LeftX q loose Xt Yf Ya N) := @_root_.PySem.W.holds_open PySem.Challenge.rw_sw0064_01.row q loose Xt XP α Yf Ya YP d kwd N (leftX left)
namespace Mine
open_top hd for PySem.Challenge.rw_sw0064_01
end Mine
end
namespace Mine
theorem wOff : True := by
  w_top off
  trivial
end Mine
section
open PySem PySem.W PySem.Spec PySem.Calls PyProof.Rows PyProof.Rows.LCg
namespace Mine
local macro_rules | `(tactic| omega) => `(tactic| first | ((repeat (with_reducible rename News _ _ _ _ => q9; clear q9)); (repeat (with_reducible rename Fr _ _ _ _ => q9; clear q9)); (repeat (with_reducible rename ∀ _ : _, _ => q9; clear q9)); lia) | omega +splitDisjunctions)
section
/-! what a chain of existences and of conjunctions gives, at one go (a destruction one by one writes the goal and the rest of the chain once for each member) -/
theorem ex1 {α1 : Type} {p : α1 → Prop} {C : Prop} (h : ∃ x1, p x1) (k : ∀ x1, p x1 → C) : C := h.elim fun x1 h => k x1 h
theorem ex2 {α1 α2 : Type} {p : α1 → α2 → Prop} {C : Prop} (h : ∃ x1 x2, p x1 x2) (k : ∀ x1 x2, p x1 x2 → C) : C := h.elim fun x1 h => h.elim fun x2 h => k x1 x2 h
theorem ex3 {α1 α2 α3 : Type} {p : α1 → α2 → α3 → Prop} {C : Prop} (h : ∃ x1 x2 x3, p x1 x2 x3) (k : ∀ x1 x2 x3, p x1 x2 x3 → C) : C := h.elim fun x1 h => h.elim fun x2 h => h.elim fun x3 h => k x1 x2 x3 h
theorem ex4 {α1 α2 α3 α4 : Type} {p : α1 → α2 → α3 → α4 → Prop} {C : Prop} (h : ∃ x1 x2 x3 x4, p x1 x2 x3 x4) (k : ∀ x1 x2 x3 x4, p x1 x2 x3 x4 → C) : C := h.elim fun x1 h => h.elim fun x2 h => h.elim fun x3 h => h.elim fun x4 h => k x1 x2 x3 x4 h
theorem ex5 {α1 α2 α3 α4 α5 : Type} {p : α1 → α2 → α3 → α4 → α5 → Prop} {C : Prop} (h : ∃ x1 x2 x3 x4 x5, p x1 x2 x3 x4 x5) (k : ∀ x1 x2 x3 x4 x5, p x1 x2 x3 x4 x5 → C) : C := h.elim fun x1 h => h.elim fun x2 h => h.elim fun x3 h => h.elim fun x4 h => h.elim fun x5 h => k x1 x2 x3 x4 x5 h
theorem ex6 {α1 α2 α3 α4 α5 α6 : Type} {p : α1 → α2 → α3 → α4 → α5 → α6 → Prop} {C : Prop} (h : ∃ x1 x2 x3 x4 x5 x6, p x1 x2 x3 x4 x5 x6) (k : ∀ x1 x2 x3 x4 x5 x6, p x1 x2 x3 x4 x5 x6 → C) : C := h.elim fun x1 h => h.elim fun x2 h => h.elim fun x3 h => h.elim fun x4 h => h.elim fun x5 h => h.elim fun x6 h => k x1 x2 x3 x4 x5 x6 h
theorem ex7 {α1 α2 α3 α4 α5 α6 α7 : Type} {p : α1 → α2 → α3 → α4 → α5 → α6 → α7 → Prop} {C : Prop} (h : ∃ x1 x2 x3 x4 x5 x6 x7, p x1 x2 x3 x4 x5 x6 x7) (k : ∀ x1 x2 x3 x4 x5 x6 x7, p x1 x2 x3 x4 x5 x6 x7 → C) : C := h.elim fun x1 h => h.elim fun x2 h => h.elim fun x3 h => h.elim fun x4 h => h.elim fun x5 h => h.elim fun x6 h => h.elim fun x7 h => k x1 x2 x3 x4 x5 x6 x7 h
theorem ex8 {α1 α2 α3 α4 α5 α6 α7 α8 : Type} {p : α1 → α2 → α3 → α4 → α5 → α6 → α7 → α8 → Prop} {C : Prop} (h : ∃ x1 x2 x3 x4 x5 x6 x7 x8, p x1 x2 x3 x4 x5 x6 x7 x8) (k : ∀ x1 x2 x3 x4 x5 x6 x7 x8, p x1 x2 x3 x4 x5 x6 x7 x8 → C) : C := h.elim fun x1 h => h.elim fun x2 h => h.elim fun x3 h => h.elim fun x4 h => h.elim fun x5 h => h.elim fun x6 h => h.elim fun x7 h => h.elim fun x8 h => k x1 x2 x3 x4 x5 x6 x7 x8 h
theorem an2 {A1 A2 C : Prop} (h : A1 ∧ A2) (k : A1 → A2 → C) : C := k h.1 h.2
theorem an3 {A1 A2 A3 C : Prop} (h : A1 ∧ A2 ∧ A3) (k : A1 → A2 → A3 → C) : C := k h.1 h.2.1 h.2.2
theorem an4 {A1 A2 A3 A4 C : Prop} (h : A1 ∧ A2 ∧ A3 ∧ A4) (k : A1 → A2 → A3 → A4 → C) : C := k h.1 h.2.1 h.2.2.1 h.2.2.2
theorem an5 {A1 A2 A3 A4 A5 C : Prop} (h : A1 ∧ A2 ∧ A3 ∧ A4 ∧ A5) (k : A1 → A2 → A3 → A4 → A5 → C) : C := k h.1 h.2.1 h.2.2.1 h.2.2.2.1 h.2.2.2.2
theorem an6 {A1 A2 A3 A4 A5 A6 C : Prop} (h : A1 ∧ A2 ∧ A3 ∧ A4 ∧ A5 ∧ A6) (k : A1 → A2 → A3 → A4 → A5 → A6 → C) : C := k h.1 h.2.1 h.2.2.1 h.2.2.2.1 h.2.2.2.2.1 h.2.2.2.2.2
theorem an7 {A1 A2 A3 A4 A5 A6 A7 C : Prop} (h : A1 ∧ A2 ∧ A3 ∧ A4 ∧ A5 ∧ A6 ∧ A7) (k : A1 → A2 → A3 → A4 → A5 → A6 → A7 → C) : C := k h.1 h.2.1 h.2.2.1 h.2.2.2.1 h.2.2.2.2.1 h.2.2.2.2.2.1 h.2.2.2.2.2.2
theorem an8 {A1 A2 A3 A4 A5 A6 A7 A8 C : Prop} (h : A1 ∧ A2 ∧ A3 ∧ A4 ∧ A5 ∧ A6 ∧ A7 ∧ A8) (k : A1 → A2 → A3 → A4 → A5 → A6 → A7 → A8 → C) : C := k h.1 h.2.1 h.2.2.1 h.2.2.2.1 h.2.2.2.2.1 h.2.2.2.2.2.1 h.2.2.2.2.2.2.1 h.2.2.2.2.2.2.2
theorem an9 {A1 A2 A3 A4 A5 A6 A7 A8 A9 C : Prop} (h : A1 ∧ A2 ∧ A3 ∧ A4 ∧ A5 ∧ A6 ∧ A7 ∧ A8 ∧ A9) (k : A1 → A2 → A3 → A4 → A5 → A6 → A7 → A8 → A9 → C) : C := k h.1 h.2.1 h.2.2.1 h.2.2.2.1 h.2.2.2.2.1 h.2.2.2.2.2.1 h.2.2.2.2.2.2.1 h.2.2.2.2.2.2.2.1 h.2.2.2.2.2.2.2.2
theorem an10 {A1 A2 A3 A4 A5 A6 A7 A8 A9 A10 C : Prop} (h : A1 ∧ A2 ∧ A3 ∧ A4 ∧ A5 ∧ A6 ∧ A7 ∧ A8 ∧ A9 ∧ A10) (k : A1 → A2 → A3 → A4 → A5 → A6 → A7 → A8 → A9 → A10 → C) : C := k h.1 h.2.1 h.2.2.1 h.2.2.2.1 h.2.2.2.2.1 h.2.2.2.2.2.1 h.2.2.2.2.2.2.1 h.2.2.2.2.2.2.2.1 h.2.2.2.2.2.2.2.2.1 h.2.2.2.2.2.2.2.2.2
theorem an11 {A1 A2 A3 A4 A5 A6 A7 A8 A9 A10 A11 C : Prop} (h : A1 ∧ A2 ∧ A3 ∧ A4 ∧ A5 ∧ A6 ∧ A7 ∧ A8 ∧ A9 ∧ A10 ∧ A11) (k : A1 → A2 → A3 → A4 → A5 → A6 → A7 → A8 → A9 → A10 → A11 → C) : C := k h.1 h.2.1 h.2.2.1 h.2.2.2.1 h.2.2.2.2.1 h.2.2.2.2.2.1 h.2.2.2.2.2.2.1 h.2.2.2.2.2.2.2.1 h.2.2.2.2.2.2.2.2.1 h.2.2.2.2.2.2.2.2.2.1 h.2.2.2.2.2.2.2.2.2.2
theorem an14 {A1 A2 A3 A4 A5 A6 A7 A8 A9 A10 A11 A12 A13 A14 C : Prop} (h : A1 ∧ A2 ∧ A3 ∧ A4 ∧ A5 ∧ A6 ∧ A7 ∧ A8 ∧ A9 ∧ A10 ∧ A11 ∧ A12 ∧ A13 ∧ A14) (k : A1 → A2 → A3 → A4 → A5 → A6 → A7 → A8 → A9 → A10 → A11 → A12 → A13 → A14 → C) : C := k h.1 h.2.1 h.2.2.1 h.2.2.2.1 h.2.2.2.2.1 h.2.2.2.2.2.1 h.2.2.2.2.2.2.1 h.2.2.2.2.2.2.2.1 h.2.2.2.2.2.2.2.2.1 h.2.2.2.2.2.2.2.2.2.1 h.2.2.2.2.2.2.2.2.2.2.1 h.2.2.2.2.2.2.2.2.2.2.2.1 h.2.2.2.2.2.2.2.2.2.2.2.2.1 h.2.2.2.2.2.2.2.2.2.2.2.2.2
theorem in2 {α1 α2 : Type} {p : α1 → α2 → Prop} (x1 : α1) (x2 : α2) (h : p x1 x2) : ∃ x1 x2, p x1 x2 := ⟨x1, x2, h⟩
theorem in3 {α1 α2 α3 : Type} {p : α1 → α2 → α3 → Prop} (x1 : α1) (x2 : α2) (x3 : α3) (h : p x1 x2 x3) : ∃ x1 x2 x3, p x1 x2 x3 := ⟨x1, x2, x3, h⟩
theorem in4 {α1 α2 α3 α4 : Type} {p : α1 → α2 → α3 → α4 → Prop} (x1 : α1) (x2 : α2) (x3 : α3) (x4 : α4) (h : p x1 x2 x3 x4) : ∃ x1 x2 x3 x4, p x1 x2 x3 x4 := ⟨x1, x2, x3, x4, h⟩
theorem in5 {α1 α2 α3 α4 α5 : Type} {p : α1 → α2 → α3 → α4 → α5 → Prop} (x1 : α1) (x2 : α2) (x3 : α3) (x4 : α4) (x5 : α5) (h : p x1 x2 x3 x4 x5) : ∃ x1 x2 x3 x4 x5, p x1 x2 x3 x4 x5 := ⟨x1, x2, x3, x4, x5, h⟩
theorem in6 {α1 α2 α3 α4 α5 α6 : Type} {p : α1 → α2 → α3 → α4 → α5 → α6 → Prop} (x1 : α1) (x2 : α2) (x3 : α3) (x4 : α4) (x5 : α5) (x6 : α6) (h : p x1 x2 x3 x4 x5 x6) : ∃ x1 x2 x3 x4 x5 x6, p x1 x2 x3 x4 x5 x6 := ⟨x1, x2, x3, x4, x5, x6, h⟩
theorem in7 {α1 α2 α3 α4 α5 α6 α7 : Type} {p : α1 → α2 → α3 → α4 → α5 → α6 → α7 → Prop} (x1 : α1) (x2 : α2) (x3 : α3) (x4 : α4) (x5 : α5) (x6 : α6) (x7 : α7) (h : p x1 x2 x3 x4 x5 x6 x7) : ∃ x1 x2 x3 x4 x5 x6 x7, p x1 x2 x3 x4 x5 x6 x7 := ⟨x1, x2, x3, x4, x5, x6, x7, h⟩
theorem in8 {α1 α2 α3 α4 α5 α6 α7 α8 : Type} {p : α1 → α2 → α3 → α4 → α5 → α6 → α7 → α8 → Prop} (x1 : α1) (x2 : α2) (x3 : α3) (x4 : α4) (x5 : α5) (x6 : α6) (x7 : α7) (x8 : α8) (h : p x1 x2 x3 x4 x5 x6 x7 x8) : ∃ x1 x2 x3 x4 x5 x6 x7 x8, p x1 x2 x3 x4 x5 x6 x7 x8 := ⟨x1, x2, x3, x4, x5, x6, x7, x8, h⟩
/-! a member of a conjunction -/
theorem if_t {b : Bool} {P Q : Prop} [Decidable (b = true)] (h : b = true) (k : P) : ite (b = true) P Q := by rw [if_pos h]; exact k
theorem if_f {b : Bool} {P Q : Prop} [Decidable (b = true)] (h : b = false) (k : Q) : ite (b = true) P Q := by rw [if_neg (by rw [h]; exact Bool.false_ne_true)]; exact k
theorem if_y {c P Q : Prop} [Decidable c] (h : c) (k : P) : ite c P Q := by rw [if_pos h]; exact k
theorem if_n {c P Q : Prop} [Decidable c] (h : ¬ c) (k : Q) : ite c P Q := by rw [if_neg h]; exact k
end
section
abbrev Led := List (Addr × Obj)
abbrev tupOf (its : List Value) (n : Nat) : Obj := { cls := .type "tuple", data := .seq its.toArray n }
def Apart (a b : Led) : Prop := ∀ p ∈ a, ∀ q ∈ b, p.1 ≠ q.1
def AtAll (h : Heap) (l : Led) : Prop := ∀ q ∈ l, h.get? q.1 = some q.2
theorem apart_nil (b : Led) : Apart [] b := fun _ h => nomatch h
theorem apart_nil' (b : Led) : Apart b [] := fun _ _ _ h => nomatch h
theorem atAll_nil (h : Heap) : AtAll h [] := fun _ h => nomatch h
theorem atAll_cons {h : Heap} {a : Addr} {o : Obj} {l : Led} (e : h.get? a = some o) (k : AtAll h l) : AtAll h ((a, o) :: l) := fun q hq => by
  rcases List.mem_cons.mp hq with rfl | hq
  · exact e
  · exact k q hq
theorem isList_of {g : Heap} {ro : Led} {l : Addr} {its : Array Value} {n : Nat} (R : AtAll g ro) (hm : (l, listOf its n) ∈ ro) : g.IsList l its := ⟨_, R _ hm, rfl, n, rfl⟩
theorem isTup_of {g : Heap} {ro : Led} {l : Addr} {its : List Value} {n : Nat} (R : AtAll g ro) (hm : (l, tupOf its n) ∈ ro) : IsTup g l its.toArray := ⟨_, R _ hm, rfl, n, rfl⟩
theorem sub_nil {α : Type} {b : List α} : ∀ p ∈ ([] : List α), p ∈ b := fun _ h => nomatch h
theorem sub_cons {α : Type} {b a : List α} {x : α} (h : x ∈ b) (k : ∀ p ∈ a, p ∈ b) : ∀ p ∈ x :: a, p ∈ b := fun p hp => by
  rcases List.mem_cons.mp hp with rfl | hp
  · exact h
  · exact k p hp
/-- an address that none of the ledger's is -/
def NeAll (u : Addr) (b : Led) : Prop := ∀ q ∈ b, u ≠ q.1
theorem neAll_nil {u : Addr} : NeAll u [] := fun _ h => nomatch h
theorem neAll_cons {u : Addr} {b : Led} {q : Addr × Obj} (h : @Ne Nat u q.1) (k : NeAll u b) : NeAll u (q :: b) := fun p hp => by
  rcases List.mem_cons.mp hp with rfl | hp
  · exact h
  · exact k p hp
theorem apart_push {b a : Led} {x : Addr × Obj} (h : NeAll x.1 b) (k : Apart a b) : Apart (x :: a) b := fun p hp q hq => by
  rcases List.mem_cons.mp hp with rfl | hp
  · exact h q hq
  · exact k p hp q hq
def LeaveR (h₀ : Heap) (L : Addr) (m : Str → Option Value) (g : Heap) (rest : Led) (R : Result → Shared → Prop) (v : Value) (s' : Shared) : Prop :=
  ∃ L' m' news', Fr g L' s'.heap m' ∧ News g L' s'.heap news' ∧ (Fr h₀ L s'.heap m → News h₀ L s'.heap (news' ++ rest) → Apart news' rest → R (.ok (.ret v)) s')
theorem leaveR_ {h₀ g : Heap} {L L' : Addr} {m m' : Str → Option Value} {rest news' : Led} {R : Result → Shared → Prop} {v : Value} {s' : Shared} (F' : Fr g L' s'.heap m') (N' : News g L' s'.heap news')
    (k : Fr h₀ L s'.heap m → News h₀ L s'.heap (news' ++ rest) → Apart news' rest → R (.ok (.ret v)) s') : LeaveR h₀ L m g rest R v s' := ⟨L', m', news', F', N', k⟩
section
variable {prog : Program} {w : World} {A₀ A : Around} {s : Shared} {base h₀ : Heap} {outer : List Env} {L : Addr} {m : Str → Option Value} {env : Env} {foot rest : Led}
  {R : Result → Shared → Prop}
theorem groundR (B : Below A₀ base outer h₀) (F : Fr h₀ L s.heap m) (N : News h₀ L s.heap (foot ++ rest)) (D : Apart foot rest) (hA : A.frames = some (env :: outer)) (hf : env.frame = some L) (hke : env.scope.kind = .function) :
    Fr h₀ L (hideAll s.heap (foot.map (·.1))) m ∧ Below A base (env :: outer) (hideAll s.heap (foot.map (·.1))) ∧ h₀.StaysIn (hideAll s.heap (foot.map (·.1))) ∧
      ∀ v s', LeaveR h₀ L m (hideAll s.heap (foot.map (·.1))) rest R v s' → R (.ok (.ret v)) s' := by
  have Nf : News h₀ L s.heap foot := fun p hp => N p (List.mem_append_left _ hp)
  obtain ⟨a1, a2, a3, _⟩ := groundX (R := R) B F Nf hA hf hke
  refine ⟨a1, a2, a3, fun v s' hl => ?_⟩
  obtain ⟨L', m', news', F', N', k⟩ := hl
  have hr : ∀ p ∈ rest, (hideAll s.heap (foot.map (·.1))).get? p.1 = some p.2 := fun p hp =>
    hideAll_get _ (N p (List.mem_append_right _ hp)).1 fun q => by
      obtain ⟨x, hx, e⟩ := List.mem_map.mp q
      exact D x hx p hp e
  obtain ⟨oL, es, ep, hL, hLd, hLk, hLf⟩ := a1.ns
  have ap : Apart news' rest := fun p hp q hq e => by
    have h1 := (N' p hp).2.2
    rw [e, hr q hq] at h1; cases h1
  refine k ⟨⟨oL, es, ep, F'.keep L oL hL, hLd, hLk, hLf⟩, fun b o e => F'.keep b o (a3 b o e), F.above⟩ (fun p hp => ?_) ap
  rcases List.mem_append.mp hp with hp | hp
  · refine ⟨(N' p hp).1, fun q => ?_, ?_⟩
    · have h1 := (N' p hp).2.2; rw [q, hL] at h1; cases h1
    · cases q : h₀.get? p.1 with
      | none => rfl
      | some o => have h1 := (N' p hp).2.2; rw [a3 _ _ q] at h1; cases h1
  · exact ⟨F'.keep _ _ (hr p hp), (N p (List.mem_append_right _ hp)).2⟩

variable {K : Frag} {mg mb : Str → Option Value} {p : Program} {loose : List Str} {mean : ExcName → Option Value} {ro : Led}
  {name qual : Str} {params : Arguments} {body : List Stmt} {scope : Scope} {cl : List (Str × Addr)} {dV kV doc pm cdv ct : Value} {an : Option Addr} {fo : Obj} {f : Addr} {args : Args} {binds : List (Str × Value)}

theorem callR_plain (B : Below A₀ base outer h₀) (F : Fr h₀ L s.heap m) (X₀ : K.In h₀) (N : News h₀ L s.heap (foot ++ rest)) (D : Apart foot rest) (RO : AtAll s.heap ro) (DR : Apart ro foot) (T : Top p loose mean mg mb h₀) (hA : A.frames = some (env :: outer)) (hf : env.frame = some L) (hke : env.scope.kind = .function)
    (ho : s.heap.get? f = some fo) (hd : fo.data = .func (fnX name qual params body scope cl dV kV doc pm an cdv ct)) (hcd : s.heap.CodeRec cdv qual) (hroom : A.depth < recursionLimit)
    (hbind : BindsTo s (fnX name qual params body scope cl dV kV doc pm an cdv ct) args binds) (hloc : ∀ y ∈ binds, scope.names.lookup y.1 = some .local)
    (h : ∀ g L' h₁, Fr h₀ L g m → Fr g L' h₁ (fun y => binds.reverse.lookup y) → News g L' h₁ foot → Below A base (env :: outer) g → K.In g → Top p loose mean mg mb g → AtAll g ro →
      wpAny (model prog w) (A.deeper (envX qual scope L' f cdv cl)) (execs body (envX qual scope L' f cdv cl))
        (fun fl s' => LeaveR h₀ L m g rest R (match fl with | .ret v => v | _ => .none) s')
        (fun e s' => wpAny (model prog w) (A.deeper (envX qual scope L' f cdv cl)) (leaving (envX qual scope L' f cdv cl) e) (fun _ s'' => R (.error e) s'') (fun e' s'' => R (.error e') s'') s')
        { s with heap := h₁, toks := s.toks + binds.length })
    (hcell : ∀ x ∈ scope.names, x.2 ≠ .cell) (hco : scope.isCoroutine = false := by rfl) (hgen : scope.isGenerator = false := by rfl) (hk : scope.kind = .function := by rfl) : codeAny (model prog w) A (.call (.ref f) args) R s := by
  obtain ⟨FG, BG, st, lv⟩ := groundR (R := R) B F N D hA hf hke
  refine codeAny_call_def (fd := fnX name qual params body scope cl dV kV doc pm an cdv ct) (body := body) (binds := binds) hroom ho hd (T.nolimit.keeps F.keep) hcd rfl hbind hcell hloc (fun h₁ hns hk₁ => ?_) hco hgen hk
  have ro' : AtAll (hideAll s.heap (foot.map (·.1))) ro := fun q hq => hideAll_get _ (RO q hq) fun z => by
    obtain ⟨x, hx, e⟩ := List.mem_map.mp z
    exact DR q hq x hx e.symm
  exact wpAny_mono (h _ s.heap.objs.size h₁ FG ⟨hns, fun b o e => hk₁ b o (of_hideAll _ e), Nat.le_of_eq (hideAll_size _ _)⟩
    (fun p hp => ⟨hk₁ _ _ (N p (List.mem_append_left _ hp)).1, Nat.ne_of_lt (Heap.lt_size (N p (List.mem_append_left _ hp)).1), hideAll_none _ (List.mem_map_of_mem hp)⟩) BG (X₀.keeps st) (T.keeps st) ro') (fun fl s' hl => lv _ _ hl) fun _ _ y => y

theorem callR_cells (B : Below A₀ base outer h₀) (F : Fr h₀ L s.heap m) (X₀ : K.In h₀) (N : News h₀ L s.heap (foot ++ rest)) (D : Apart foot rest) (RO : AtAll s.heap ro) (DR : Apart ro foot) (T : Top p loose mean mg mb h₀) (hA : A.frames = some (env :: outer)) (hf : env.frame = some L) (hke : env.scope.kind = .function)
    (ho : s.heap.get? f = some fo) (hd : fo.data = .func (fnX name qual params body scope [] dV kV doc pm an cdv ct)) (hcd : s.heap.CodeRec cdv qual) (hroom : A.depth < recursionLimit)
    (hbind : BindsTo s (fnX name qual params body scope [] dV kV doc pm an cdv ct) args binds)
    (hkind : (binds.all fun y => scope.names.lookup y.1 == some .local || scope.names.lookup y.1 == some .cell) = true)
    (hnd : ((cellsFrom 0 scope.names []).map (·.1)).Nodup)
    (h : ∀ g L' h₁ tk cells, Fr h₀ L g m → Fr g L' h₁ (bindL (envOfC qual scope L' f cdv).kindOf binds fun _ => none) → News g L' h₁ (cells ++ foot) →
      CellsAre (bindC (envOfC qual scope L' f cdv).kindOf binds fun _ => none) (cellsFrom (L' + 1) scope.names []) cells → Below A base (env :: outer) g → K.In g → Top p loose mean mg mb g → AtAll g ro → (∀ p ∈ foot, p.1 < L') →
      wpAny (model prog w) (A.deeper (envOfC qual scope L' f cdv)) (execs body (envOfC qual scope L' f cdv))
        (fun fl s' => LeaveR h₀ L m g rest R (match fl with | .ret v => v | _ => .none) s')
        (fun e s' => wpAny (model prog w) (A.deeper (envOfC qual scope L' f cdv)) (leaving (envOfC qual scope L' f cdv) e) (fun _ s'' => R (.error e) s'') (fun e' s'' => R (.error e') s'') s')
        { s with heap := h₁, toks := tk })
    (hco : scope.isCoroutine = false := by rfl) (hgen : scope.isGenerator = false := by rfl) (hk : scope.kind = .function := by rfl) : codeAny (model prog w) A (.call (.ref f) args) R s := by
  obtain ⟨FG, BG, st, lv⟩ := groundR (R := R) B F N D hA hf hke
  have Nf : News h₀ L s.heap foot := fun p hp => N p (List.mem_append_left _ hp)
  have ro' : AtAll (hideAll s.heap (foot.map (·.1))) ro := fun q hq => hideAll_get _ (RO q hq) fun z => by
    obtain ⟨x, hx, e⟩ := List.mem_map.mp z
    exact DR q hq x hx e.symm
  refine codeAny_call_function hroom ho hd hco hgen rfl hcd (hbind _ _ _ _ ?_)
  refine wpAny_newFunctionEnv_cells hk (kindsX hkind _) fun env' he s' x => ?_
  subst he
  refine ⟨(T.nolimit.keeps F.keep).keeps x.toInCall.keep, codeAny_func ?_⟩
  obtain ⟨h₁, tk, rfl, _⟩ := x.done
  have hk₁ := x.toInCall.keep
  obtain ⟨cells, NC, Y⟩ := Cl.news (h₀ := s.heap) (Nat.le_refl _) fun n c hm => ⟨x.cell n c (lookup_of_mem_nodup (cellsFrom_names scope.names 0 (s.heap.objs.size + 1) [] [] rfl ▸ hnd) hm), x.above n c hm⟩
  refine wpAny_mono (h _ s.heap.objs.size h₁ tk cells FG ⟨x.toInCall.ns, fun b o e => hk₁ b o (of_hideAll _ e), Nat.le_of_eq (hideAll_size _ _)⟩ (fun p hp => ?_) Y BG (X₀.keeps st) (T.keeps st) ro' (fun p hp => Heap.lt_size (Nf p hp).1)) (fun fl s' hl => lv _ _ hl) fun _ _ y => y
  rcases List.mem_append.mp hp with hp | hp
  · refine ⟨(NC p hp).1, (NC p hp).2.1, ?_⟩
    cases q : (hideAll s.heap (foot.map (·.1))).get? p.1 with
    | none => rfl
    | some o => have h2 := of_hideAll _ q; rw [(NC p hp).2.2] at h2; cases h2
  · exact ⟨hk₁ _ _ (Nf p hp).1, Nat.ne_of_lt (Heap.lt_size (Nf p hp).1), hideAll_none _ (List.mem_map_of_mem hp)⟩

/-- the K form of both: the def stands in the written part -/
theorem codeR_def {oc : Value} {od : Option Addr} {osl : Array (Option Value)} (B : Below A₀ base outer h₀) (F : Fr h₀ L s.heap m) (X₀ : K.In h₀) (N : News h₀ L s.heap (foot ++ rest)) (D : Apart foot rest) (RO : AtAll s.heap ro) (DR : Apart ro foot) (T : Top p loose mean mg mb h₀) (hA : A.frames = some (env :: outer)) (hf : env.frame = some L) (hke : env.scope.kind = .function)
    (ho : K.lookup f = some ⟨oc, od, .func (fnOf name qual params body scope dV kV doc pm an cdv ct), osl⟩) (hcd : codeIn K cdv qual = true) (hroom : A.depth < recursionLimit)
    (hbind : BindsTo s (fnOf name qual params body scope dV kV doc pm an cdv ct) args binds) (hloc : ∀ y ∈ binds, scope.names.lookup y.1 = some .local)
    (h : ∀ g L' h₁, Fr h₀ L g m → Fr g L' h₁ (fun y => binds.reverse.lookup y) → News g L' h₁ foot → Below A base (env :: outer) g → K.In g → Top p loose mean mg mb g → AtAll g ro →
      wpAny (model prog w) (A.deeper (envOf qual scope L' f cdv)) (execs body (envOf qual scope L' f cdv))
        (fun fl s' => LeaveR h₀ L m g rest R (match fl with | .ret v => v | _ => .none) s')
        (fun e s' => wpAny (model prog w) (A.deeper (envOf qual scope L' f cdv)) (leaving (envOf qual scope L' f cdv) e) (fun _ s'' => R (.error e) s'') (fun e' s'' => R (.error e') s'') s')
        { s with heap := h₁, toks := s.toks + binds.length })
    (hco : scope.isCoroutine = false) (hgen : scope.isGenerator = false) (hk : scope.kind = .function)
    (hcell : ∀ x ∈ scope.names, x.2 ≠ .cell) : codeAny (model prog w) A (.call (.ref f) args) R s :=
  callR_plain (cl := []) B F X₀ N D RO DR T hA hf hke ((X₀.keeps F.keep) _ _ ho) rfl (codeRec_of (X₀.keeps F.keep) hcd) hroom hbind hloc h hcell hco hgen hk
theorem codeR_defC {oc : Value} {od : Option Addr} {osl : Array (Option Value)} (B : Below A₀ base outer h₀) (F : Fr h₀ L s.heap m) (X₀ : K.In h₀) (N : News h₀ L s.heap (foot ++ rest)) (D : Apart foot rest) (RO : AtAll s.heap ro) (DR : Apart ro foot) (T : Top p loose mean mg mb h₀) (hA : A.frames = some (env :: outer)) (hf : env.frame = some L) (hke : env.scope.kind = .function)
    (ho : K.lookup f = some ⟨oc, od, .func (fnOf name qual params body scope dV kV doc pm an cdv ct), osl⟩) (hcd : codeIn K cdv qual = true) (hroom : A.depth < recursionLimit)
    (hbind : BindsTo s (fnOf name qual params body scope dV kV doc pm an cdv ct) args binds)
    (hkind : (binds.all fun y => scope.names.lookup y.1 == some .local || scope.names.lookup y.1 == some .cell) = true)
    (hnd : ((cellsFrom 0 scope.names []).map (·.1)).Nodup)
    (h : ∀ g L' h₁ tk cells, Fr h₀ L g m → Fr g L' h₁ (bindL (envOfC qual scope L' f cdv).kindOf binds fun _ => none) → News g L' h₁ (cells ++ foot) →
      CellsAre (bindC (envOfC qual scope L' f cdv).kindOf binds fun _ => none) (cellsFrom (L' + 1) scope.names []) cells → Below A base (env :: outer) g → K.In g → Top p loose mean mg mb g → AtAll g ro → (∀ p ∈ foot, p.1 < L') →
      wpAny (model prog w) (A.deeper (envOfC qual scope L' f cdv)) (execs body (envOfC qual scope L' f cdv))
        (fun fl s' => LeaveR h₀ L m g rest R (match fl with | .ret v => v | _ => .none) s')
        (fun e s' => wpAny (model prog w) (A.deeper (envOfC qual scope L' f cdv)) (leaving (envOfC qual scope L' f cdv) e) (fun _ s'' => R (.error e) s'') (fun e' s'' => R (.error e') s'') s')
        { s with heap := h₁, toks := tk })
    (hco : scope.isCoroutine = false) (hgen : scope.isGenerator = false) (hk : scope.kind = .function) : codeAny (model prog w) A (.call (.ref f) args) R s :=
  callR_cells B F X₀ N D RO DR T hA hf hke ((X₀.keeps F.keep) _ _ ho) rfl (codeRec_of (X₀.keeps F.keep) hcd) hroom hbind hkind hnd h hco hgen hk
end
/-- what a call of a def gives: `Post r new` of the result and the footprint behind it; `ro` is read, `foot` may be changed -/
def Spec (w : World) (f : Value) (vs : List Value) (D U : Nat) (ro foot : Led) (Post : Value → Led → Prop) : Prop :=
  ∀ (p : Program) (loose : List Str) (mean : ExcName → Option Value) (mg mb : Str → Option Value) (dp un : Nat) (gd : Option (List Code)) (cn : Str) (nm : List (Str × NameKind)) (g1 g2 : Bool) (mr : List (Str × Const)) (a : Addr) (ccd : Value) (cl : List (Str × Addr)) (outer : List Env) (A₀ : Around) (base h₀ : Heap) (L : Addr) (m : Str → Option Value) (rest : Led) (s : Shared) (Q E : Value → Shared → Prop),
    Below A₀ base outer h₀ → Fr h₀ L s.heap m → (Mine.hd.heap_39 w.params).In h₀ → News h₀ L s.heap (foot ++ rest) → Apart foot rest → AtAll s.heap ro → Apart ro foot → Top p loose mean mg mb h₀ → dp + D < recursionLimit → un + U < cLine →
    (∀ (r : Value) (new : Led) (h' : Heap) (tk' : Nat), Post r new → Fr h₀ L h' m → News h₀ L h' (new ++ rest) → Apart new rest → Q r { s with heap := h', toks := tk' }) →
    wpAny (model PySem.Challenge.rw_sw0064_01.row.prog w) (ktrTop dp un gd cn { kind := .function, names := nm, isGenerator := g1, isCoroutine := g2, more := mr } L a ccd cl outer) (call f vs) Q E s
/-- what a call leads to, said by a name -/
theorem postG {Post : Value → Led → Prop} {G : Value → Led → Heap → Nat → Prop} (h : ∀ (G' : Value → Led → Heap → Nat → Prop), (∀ r nw h tk, G r nw h tk → G' r nw h tk) → ∀ r nw h tk, Post r nw → G' r nw h tk) : ∀ r nw h tk, Post r nw → G r nw h tk := h G (fun _ _ _ _ h => h)
theorem postI {n : Nat} {Inv : Nat → List Value → Led → Prop} {G : Nat → List Value → Led → Prop} (h : ∀ (G' : Nat → List Value → Led → Prop), (∀ i ys nw, G i ys nw → G' i ys nw) → ∀ i ys nw, i < n → Inv i ys nw → G' i ys nw) : ∀ i ys nw, i < n → Inv i ys nw → G i ys nw := h G (fun _ _ _ h => h)
theorem postB {B : (Str → Option Value) → Prop} {G : Addr → Obj → Addr → (Str → Option Value) → Heap → Nat → Led → (Value → Shared → Prop) → Prop}
    (h : ∀ (G' : Addr → Obj → Addr → (Str → Option Value) → Heap → Nat → Led → (Value → Shared → Prop) → Prop), (∀ C oC D m h tk its E, G C oC D m h tk its E → G' C oC D m h tk its E) → ∀ C oC D m h tk its E, B m → G' C oC D m h tk its E) : ∀ C oC D m h tk its E, B m → G C oC D m h tk its E := h G (fun _ _ _ _ _ _ _ _ h => h)
theorem postE {Inv : List Value → Led → Prop} {G : List Value → Led → Prop} (h : ∀ (G' : List Value → Led → Prop), (∀ ys nw, G ys nw → G' ys nw) → ∀ ys nw, Inv ys nw → G' ys nw) : ∀ ys nw, Inv ys nw → G ys nw := h G (fun _ _ h => h)
end
section
section
variable {prog : Program} {w : World} {A : Around} {E : Value → Shared → Prop} {s : Shared} {h₀ : Heap} {L : Addr} {m : Str → Option Value} {env : Env}

/-- a comprehension's iterator with its target: a turn's item, taken apart and bound in the comprehension's own frame -/
structure GTurns (prog : Program) (w : World) (A : Around) (target : Expr) (cenv : Addr → Env) (I : Addr) (fp wr : List Addr) (n : Nat) (B : Nat → (Str → Option Value) → Prop) (St : Nat → Heap → Prop) : Prop where
  sub : ∀ b ∈ wr, b ∈ fp
  frame : ∀ i h h', St i h → (∀ b ∈ fp, ∀ o, h.get? b = some o → h'.get? b = some o) → St i h'
  item : ∀ i (s : Shared) (C : Addr) (m' : Str → Option Value) (Rn : Shared → Prop) (Kk : Shared → Prop) (E : Value → Shared → Prop), i < n → St i s.heap → s.heap.Ns C m' → C ∉ fp →
    (∀ h' tk m₂, B i m₂ → St (i + 1) h' → h'.Ns C m₂ → (∀ b o, b ∉ wr → b ≠ C → s.heap.get? b = some o → h'.get? b = some o) → Kk { s with heap := h', toks := tk }) →
    wpAny (model prog w) A (pyNext (.ref I)) (fun r s₁ => match r with
      | none => Rn s₁
      | some v => wpAny (model prog w) A (letOwnedTupleGo target (.ref I) v) (fun _ s₂ => wpAny (model prog w) A (assign target (cenv C) v) (fun _ s₃ => Kk s₃) E s₂) E s₁) E s
  done : ∀ (s : Shared) (Q : Option Value → Shared → Prop) (E : Value → Shared → Prop), St n s.heap →
    (∀ h' tk, (∀ b o, b ∉ wr → s.heap.get? b = some o → h'.get? b = some o) → Q none { s with heap := h', toks := tk }) → wpAny (model prog w) A (pyNext (.ref I)) Q E s
  self : ∀ i (s : Shared) (Q : Value → Shared → Prop) (E : Value → Shared → Prop), St i s.heap → Q (.ref I) s → wpAny (model prog w) A (pyIter (.ref I)) Q E s

theorem GTurns.ofWalks {x : Str} {px : Pos} {scope : Scope} {cl : List (Str × Addr)} {I : Addr} {fp wr : List Addr} {n : Nat} {P : Nat → Value → Prop} {St : Nat → Heap → Prop} (W : Walks prog w A I fp wr n P St)
    (hkind : scope.kind = .function) (hx : scope.names.lookup x = some .local) :
    GTurns prog w A (.Name x px) (fun C => compEnvC scope cl C env) I fp wr n (fun i m₂ => ∃ v, P i v ∧ m₂ x = some v) St where
  sub := W.sub
  frame := W.frame
  item := fun i s C m' Rn Kk E hi hst hn hC hK => by
    refine W.item i s _ _ hi hst fun v h₂ tk₂ hPv hst₂ hk₂ => ?_
    have hCw : C ∉ wr := fun q => hC (W.sub _ q)
    show wpAny _ A (pure ()) _ _ _
    refine wpAny_pure ?_
    refine wpAny_assign_Name (wpAny_storeName_local (lookup_relabel_local hx) (hn.at' fun o e => hk₂ _ o hCw e) (fun h₃ hn₃ hs₃ => ?_) (by simp [compEnvC, relabel, hkind]))
    refine hK h₃ _ _ ⟨v, hPv, by simp⟩ (W.frame _ _ _ hst₂ fun b hb o e => hs₃.extBut b o (fun q => hC (by have q' : b = C := q; rw [← q']; exact hb)) e) hn₃ fun b o hb hbC e => hs₃.extBut b o hbC (hk₂ b o hb e)
  done := W.done
  self := W.self

theorem GTurns.ofWalksU {a b : Str} {pa pb tp : Pos} {kk : Nat} {scope : Scope} {cl : List (Str × Addr)} {I : Addr} {fp wr : List Addr} {n : Nat} {Pt : Nat → Array Value → Prop} {St : Nat → Heap → Prop} {Mid : Nat → Addr → Heap → Prop} (W : WalksU prog w A I fp wr n Pt St Mid)
    (hh : A.handled = none) (hP : ∀ i vals, Pt i vals → ∃ u v, vals = #[u, v]) (hkind : scope.kind = .function) (ha : scope.names.lookup a = some .local) (hb : scope.names.lookup b = some .local) (hab : ¬ a = b) :
    GTurns prog w A (.Tuple [.Name a pa, .Name b pb] kk tp) (fun C => compEnvC scope cl C env) I fp wr n (fun i m₂ => ∃ u v, Pt i #[u, v] ∧ m₂ a = some u ∧ m₂ b = some v) St where
  sub := W.sub
  frame := W.frame
  item := fun i s C m' Rn Kk E hi hst hn hC hK => by
    have hCw : C ∉ wr := fun q => hC (W.sub _ q)
    refine W.item i s _ _ hi hst fun T vals h₂ tk₂ hPv hT hm hk₂ => ?_
    obtain ⟨u, v, rfl⟩ := hP i vals hPv
    refine W.go _ _ _ i T _ _ _ hm fun h₃ hst₃ hk₃ => ?_
    have hT₃ : h₃.IsTuple T #[u, v] := hT.at fun o e => hk₃ T o (W.apart i T _ hm) e
    have up₃ : ∀ c o, c ∉ wr → s.heap.get? c = some o → h₃.get? c = some o := fun c o hc e => hk₃ c o hc (hk₂ c o hc e)
    refine kcp_assign (env := compEnvC scope cl C env) hh hT₃ (lookup_relabel_local ha) (lookup_relabel_local hb) (by simp [compEnvC, relabel, hkind]) (hn.at' fun o e => up₃ _ o hCw e) fun h₄ tk₄ hn₄ hs₄ => ?_
    refine hK h₄ _ _ ⟨u, v, hPv, by simp [hab], by simp⟩ (W.frame _ _ _ hst₃ fun c hc o e => hs₄ c o (fun q => hC (by have q' : c = C := q; rw [← q']; exact hc)) e) hn₄ fun c o hc hcC e => hs₄ c o hcC (up₃ c o hc e)
  done := W.done
  self := W.self

def GBody (prog : Program) (w : World) (A : Around) (ifs : List Expr) (elt : Expr) (env : Env) (Yes : Value → Shared → Prop) (No : Shared → Prop) (E : Value → Shared → Prop) (s : Shared) : Prop :=
  match ifs with
  | [] => wpAny (model prog w) A (eval elt env) Yes E s
  | c :: _ => wpAny (model prog w) A (isTrue c env (eval c env)) (fun ok s₃ => if ok = true then wpAny (model prog w) A (eval elt env) Yes E s₃ else No s₃) E s
theorem GBody.mono {ifs : List Expr} {elt : Expr} {env : Env} {Yes Yes' : Value → Shared → Prop} {No No' : Shared → Prop} {E E' : Value → Shared → Prop} {s : Shared} (h : GBody prog w A ifs elt env Yes No E s) (hy : ∀ y s, Yes y s → Yes' y s) (hn : ∀ s, No s → No' s) (he : ∀ e s, E e s → E' e s) : GBody prog w A ifs elt env Yes' No' E' s := by
  cases ifs with
  | nil => exact wpAny_mono h hy he
  | cons c r =>
    refine wpAny_mono h (fun ok s₃ h₃ => ?_) he
    cases ok with
    | true => simp only [if_true] at h₃ ⊢; exact wpAny_mono h₃ hy he
    | false => simp only [Bool.false_eq_true, if_false] at h₃ ⊢; exact hn _ h₃

theorem gcomp_loop {elt target iter : Expr} {ifs : List Expr} {scope : Scope} {pos : Pos} {it acc : Value} {env : Env} {R : Result → Shared → Prop} (hif : ifs.length ≤ 1) (I : Nat → Shared → Prop)
    (turn : ∀ n s, I n s → wpAny (model prog w) A (pyNext it) (fun r s₁ => match r with
      | none => R (.ok .next) s₁
      | some v => wpAny (model prog w) A (letOwnedTupleGo target it v) (fun _ s₀ => wpAny (model prog w) A (assign target env v) (fun _ s₂ =>
          GBody prog w A ifs elt env (fun x s₄ => wpAny (model prog w) A (call (.builtin "list.append") [acc, x]) (fun _ s₅ => ∃ m, m < n ∧ I m s₅) (notedBy (model prog w) A env fun e s' => R (.error e) s') s₄) (fun s₃ => ∃ m, m < n ∧ I m s₃) (notedBy (model prog w) A env fun e s' => R (.error e) s') s₂)
          (notedBy (model prog w) A env fun e s' => R (.error e) s') s₀) (notedBy (model prog w) A env fun e s' => R (.error e) s') s₁) (notedBy (model prog w) A env fun e s' => R (.error e) s') s)
    (n : Nat) (h : I n s) : codeAny (model prog w) A (.compLoop (.ListComp elt [⟨target, iter, ifs, 0⟩] scope pos) 0 it acc env) R s := by
  refine codeAny_loop rfl I (fun n s hI => ?_) n h
  show wpAny _ A ((compTurn (.ListComp elt [⟨target, iter, ifs, 0⟩] scope pos) 0 it acc env).onRaise (fun x => do noteFrame x env; theTreesLotGoes x)) _ _ s
  refine wpAny_noted ?_
  rw [compTurn_list]
  refine wpAny_bind (wpAny_standAt (wpAny_bind (wpAny_mono (turn n s hI) (fun r s₁ h₁ => ?_) fun _ _ h' => h')))
  cases r with
  | none => exact wpAny_pure h₁
  | some v =>
    refine wpAny_bind (wpAny_mono h₁ (fun _ s₀ h₀' => ?_) fun _ _ h' => h')
    refine wpAny_bind (wpAny_mono h₀' (fun _ s₂ h₂ => ?_) fun _ _ h' => h')
    match ifs, hif, h₂ with
    | [], _, h₂ =>
      refine wpAny_bind (wpAny_tests_nil ?_)
      exact wpAny_bind (wpAny_bind (wpAny_mono h₂ (fun x s₄ h₄ => wpAny_bind (wpAny_mono h₄ (fun _ s₅ h₅ => wpAny_pure (wpAny_pure ⟨rfl, h₅⟩)) fun _ _ h' => h')) fun _ _ h' => h'))
    | [c], _, h₂ =>
      refine wpAny_bind (wpAny_tests_one (wpAny_mono h₂ (fun okb s₃ h₃ => ?_) fun _ _ h' => h'))
      cases okb with
      | false => exact wpAny_pure ⟨rfl, h₃⟩
      | true => exact wpAny_bind (wpAny_bind (wpAny_mono h₃ (fun x s₄ h₄ => wpAny_bind (wpAny_mono h₄ (fun _ s₅ h₅ => wpAny_pure (wpAny_pure ⟨rfl, h₅⟩)) fun _ _ h' => h')) fun _ _ h' => h'))

/-- a turn's end: the iterator's objects, the comprehension's frame and the list that is built stand as they stood -/
def GEnd (h₀ : Heap) (L : Addr) (m : Str → Option Value) (s₁ : Shared) (fix : Led) (S : Led → Prop) (rest : Led → Prop) (s₂ : Shared) : Prop :=
  ∃ h' tk news', s₂ = { s₁ with heap := h', toks := tk } ∧ Fr h₀ L h' m ∧ News h₀ L h' (fix ++ news') ∧ Apart fix news' ∧ S news' ∧ rest news'
theorem GEnd.intro {s₁ : Shared} {fix news' : Led} {S : Led → Prop} {rest : Led → Prop} {h' : Heap} {tk : Nat} (F : Fr h₀ L h' m) (N : News h₀ L h' (fix ++ news')) (ap : Apart fix news') (hS : S news') (r : rest news') :
    GEnd h₀ L m s₁ fix S rest { s₁ with heap := h', toks := tk } := ⟨h', tk, news', rfl, F, N, ap, hS, r⟩

def GRest (prog : Program) (w : World) (A : Around) (h₀ : Heap) (L : Addr) (m : Str → Option Value) (env : Env) (ifs : List Expr) (elt : Expr) (scope : Scope) (cl : List (Str × Addr)) (s : Shared) (wr : List Addr) (S : Led → Prop) (B : Nat → (Str → Option Value) → Prop)
    (Fin : List Value → Led → Prop) : Nat → Nat → List Value → Led → Prop
  | 0, _, ys, news => Fin ys news
  | k + 1, i, ys, news => ∀ C oC D m₂ h tk its (E' : Value → Shared → Prop), B i m₂ → NsObj oC m₂ → its.map (·.1) = wr → Fr h₀ L h m → News h₀ L h ((its ++ [(C, oC), (D, lst ys)]) ++ news) → Apart (its ++ [(C, oC), (D, lst ys)]) news →
      GBody prog w A ifs elt (compEnvC scope cl C env) (fun y => GEnd h₀ L m { s with heap := h, toks := tk } (its ++ [(C, oC), (D, lst ys)]) S (fun news' => GRest prog w A h₀ L m env ifs elt scope cl s wr S B Fin k (i + 1) (ys ++ [y]) news'))
        (GEnd h₀ L m { s with heap := h, toks := tk } (its ++ [(C, oC), (D, lst ys)]) S (fun news' => GRest prog w A h₀ L m env ifs elt scope cl s wr S B Fin k (i + 1) ys news')) E' { s with heap := h, toks := tk }

theorem gcomp_block {elt target iter : Expr} {ifs : List Expr} {scope : Scope} {cl : List (Str × Addr)} {pos : Pos} {s₂ : Shared} {I : Addr} {fp wr : List Addr} {n : Nat} {B : Nat → (Str → Option Value) → Prop} {St : Nat → Heap → Prop} {S : Led → Prop} {news : Led}
    {Fin : List Value → Led → Prop} {RR : Value → Addr → Result → Shared → Prop} (hif : ifs.length ≤ 1)
    (W : GTurns prog w A target (fun C => compEnvC scope cl C env) I fp wr n B St) (hsz : n ≤ sizeLine)
    (hobj : ∀ i h, St i h → ∃ its : Led, its.map (·.1) = wr ∧ AtAll h its)
    (hSt : ∀ i h h' its nw, St i h → AtAll h its → its.map (·.1) = wr → AtAll h' its → (∀ b o, h₀.get? b = some o → h'.get? b = some o) → News h₀ L h' nw → S nw → St i h')
    (hcell : ∀ y ∈ scope.names, y.2 ≠ .cell) (hkind : scope.kind = .function) (hst : St 0 s₂.heap) (hfp : ∀ b ∈ fp, b < s₂.heap.objs.size)
    (F : Fr h₀ L s₂.heap m) (N : News h₀ L s₂.heap news) (hLw : L ∉ wr) (hwr : ∀ b ∈ wr, h₀.get? b = none) (off : ∀ p ∈ news, p.1 ∉ wr) (hS : S news)
    (R : GRest prog w A h₀ L m env ifs elt scope cl s₂ wr S B Fin n 0 [] news)
    (hRR : ∀ D C h tk m' ys news', Fr h₀ L h m → News h₀ L h ((D, lst ys) :: news') → Apart [(D, lst ys)] news' → h.Ns C m' → h₀.get? C = none → h₀.get? D = none → C ≠ L → D ≠ L → C ≠ D → (∀ p ∈ news', p.1 ≠ C) → Fin ys news' → RR (.ref D) C (.ok .next) { s₂ with heap := h, toks := tk }) :
    wpAny (model prog w) A (newList []) (fun acc s₃ => wpAny (model prog w) A (newFunctionEnv scope env.globals cl [] env.qual none .none (some env)) (fun cenv s₄ =>
      codeAny (model prog w) A (.compStart (.ListComp elt [⟨target, iter, ifs, 0⟩] scope pos) 0 (.ref I) acc { cenv with scope := relabel scope env }) (RR acc cenv.locals) s₄) E s₃) E s₂ := by
  refine wpAny_newObj_type (wpAny_newFunctionEnv hcell (by intro y hy; simp at hy) (fun h₁ hns₁ hsb₁ => ?_) hkind)
  dsimp only at hns₁ hsb₁ ⊢
  generalize hH2 : s₂.heap.push { cls := .type "list", dict := none, data := .seq ([] : List Value).toArray } = H2 at hns₁ hsb₁ ⊢
  have hC : H2.objs.size = s₂.heap.objs.size + 1 := by rw [← hH2, Heap.size_push]
  have hDC : s₂.heap.objs.size ≠ H2.objs.size := by rw [hC]; exact Nat.ne_of_lt (Nat.lt_succ_self _)
  have below : ∀ b, b < s₂.heap.objs.size → b ≠ H2.objs.size ∧ b ≠ s₂.heap.objs.size := fun b hb => ⟨by rw [hC]; exact Nat.ne_of_lt (Nat.lt_succ_of_lt hb), Nat.ne_of_lt hb⟩
  have hDf : s₂.heap.objs.size ∉ fp := fun hm => Nat.lt_irrefl _ (hfp _ hm)
  have hCf : H2.objs.size ∉ fp := fun hm => by have h9 := hfp _ hm; rw [hC] at h9; exact Nat.lt_irrefl _ (Nat.lt_of_succ_lt h9)
  have old : ∀ b o, s₂.heap.get? b = some o → h₁.get? b = some o := fun b o e => hsb₁.extBut b o (below b (Heap.lt_size e)).1 (Heap.get?_push_of_some _ (hH2 ▸ Heap.get?_push_of_some _ e))
  have hacc : h₁.get? s₂.heap.objs.size = some (lst []) := hsb₁.extBut _ _ hDC (Heap.get?_push_of_some _ (hH2 ▸ Heap.get?_push_size _ rfl))
  have hst₁ : St 0 h₁ := W.frame _ _ _ hst fun b _ o e => old b o e
  have fresh : ∀ a, s₂.heap.objs.size ≤ a → s₂.heap.get? a = none := fun a ha => by
    cases e : s₂.heap.get? a with
    | none => rfl
    | some o' => exact absurd (Heap.lt_size e) (Nat.not_lt.mpr ha)
  have fresh₀ : ∀ a, s₂.heap.objs.size ≤ a → h₀.get? a = none := fun a ha => by
    cases e : h₀.get? a with
    | none => rfl
    | some o' => have h9 := F.keep a o' e; rw [fresh a ha] at h9; cases h9
  have hD₀ : h₀.get? s₂.heap.objs.size = none := fresh₀ _ (Nat.le_refl _)
  have hC₀ : h₀.get? H2.objs.size = none := fresh₀ _ (by rw [hC]; exact Nat.le_succ _)
  have hLlt : L < s₂.heap.objs.size := F.ns.lt
  have hDL : s₂.heap.objs.size ≠ L := Ne.symm (below L hLlt).2
  have hCL : H2.objs.size ≠ L := Ne.symm (below L hLlt).1
  have hDw : s₂.heap.objs.size ∉ wr := fun q => hDf (W.sub _ q)
  have hCw : H2.objs.size ∉ wr := fun q => hCf (W.sub _ q)
  have off₀ : ∀ p ∈ news, p.1 ∉ wr ∧ p.1 ≠ H2.objs.size ∧ p.1 ≠ s₂.heap.objs.size := fun p hp => ⟨off p hp, below _ (Heap.lt_size (N p hp).1)⟩
  have loop : ∀ s₃ : Shared, s₃ = { s₂ with heap := h₁, toks := s₂.toks + ([] : List (Str × Value)).length } →
      codeAny (model prog w) A (.compLoop (.ListComp elt [⟨target, iter, ifs, 0⟩] scope pos) 0 (.ref I) (.ref s₂.heap.objs.size) (compEnvC scope cl H2.objs.size env))
        (RR (.ref s₂.heap.objs.size) H2.objs.size) s₃ := by
    rintro s₃ rfl
    refine gcomp_loop hif
      (fun k s' => ∃ h' tk i ys m' news', s' = { s₂ with heap := h', toks := tk } ∧ i ≤ n ∧ k = n + 1 - i ∧ ys.length ≤ i ∧ St i h' ∧ Fr h₀ L h' m ∧ h'.Ns H2.objs.size m' ∧ News h₀ L h' ((s₂.heap.objs.size, lst ys) :: news') ∧
        (∀ p ∈ news', p.1 ∉ wr ∧ p.1 ≠ H2.objs.size ∧ p.1 ≠ s₂.heap.objs.size) ∧ S news' ∧ GRest prog w A h₀ L m env ifs elt scope cl s₂ wr S B Fin (n - i) i ys news') ?_ (n + 1)
      (in6 h₁ _ 0 [] _ news ⟨rfl, Nat.zero_le _, rfl, Nat.le_refl _, hst₁, F.keeps old, hns₁, fun p hp => ?_, off₀, hS, R⟩)
    · (intro k s' hP9; refine ex6 hP9 ?_; clear hP9; intro h' tk i ys m' news' hP9; refine an11 hP9 ?_; clear hP9; rintro rfl hi rfl hyl hst' F' hn' N' off' hS' R')
      by_cases hlt : i < n
      · (refine ex1 (show ∃ j, n - i = j + 1 from ⟨n - i - 1, by omega⟩) ?_; intro j hj)
        rw [hj] at R'
        refine W.item i _ _ m' _ _ _ hlt hst' hn' hCf fun h₃ tk₃ m₂ hB hst₃ hn₃ hk₃ => ?_
        (refine ex1 (hobj _ _ hst₃) ?_; intro its hP9; refine an2 hP9 ?_; clear hP9; intro hits hat)
        (refine ex1 (ns_obj hn₃) ?_; intro oC hP9; refine an2 hP9 ?_; clear hP9; intro heC hoC)
        have F₃ : Fr h₀ L h₃ m := ⟨F'.ns.at' fun o e => hk₃ _ o hLw (Ne.symm hCL) e, fun b o e => hk₃ b o (fun q => by rw [hwr b q] at e; cases e) (fun q => by rw [q, hC₀] at e; cases e) (F'.keep b o e), F'.above⟩
        have itw : ∀ p ∈ its, p.1 ∈ wr := fun p hp => by rw [← hits]; exact List.mem_map_of_mem hp
        have N₃ : News h₀ L h₃ ((its ++ [(H2.objs.size, oC), (s₂.heap.objs.size, lst ys)]) ++ news') := fun p hp => by
          rcases List.mem_append.mp hp with hp | hp
          · rcases List.mem_append.mp hp with hp | hp
            · exact ⟨hat p hp, fun q => hLw (q ▸ itw p hp), hwr _ (itw p hp)⟩
            · rcases List.mem_cons.mp hp with rfl | hp
              · exact ⟨heC, hCL, hC₀⟩
              · rcases List.mem_cons.mp hp with rfl | hp
                · exact ⟨hk₃ _ _ hDw hDC (N' _ (.head _)).1, hDL, hD₀⟩
                · cases hp
          · have z := N' p (.tail _ hp)
            exact ⟨hk₃ _ _ (off' p hp).1 (off' p hp).2.1 z.1, z.2⟩
        have ap : Apart (its ++ [(H2.objs.size, oC), (s₂.heap.objs.size, lst ys)]) news' := fun p hp q hq e => by
          rcases List.mem_append.mp hp with hp | hp
          · exact (off' q hq).1 (e ▸ itw p hp)
          · rcases List.mem_cons.mp hp with rfl | hp
            · exact (off' q hq).2.1 e.symm
            · rcases List.mem_cons.mp hp with rfl | hp
              · exact (off' q hq).2.2 e.symm
              · cases hp
        have fin : ∀ (ys' : List Value) (s₄ : Shared), ys'.length ≤ i + 1 → GEnd h₀ L m { s₂ with heap := h₃, toks := tk₃ } (its ++ [(H2.objs.size, oC), (s₂.heap.objs.size, lst ys)]) S (fun news' => GRest prog w A h₀ L m env ifs elt scope cl s₂ wr S B Fin j (i + 1) ys' news') s₄ →
            ∃ h₄ tk₄ news₄, s₄ = { s₂ with heap := h₄, toks := tk₄ } ∧ St (i + 1) h₄ ∧ Fr h₀ L h₄ m ∧ h₄.Ns H2.objs.size m₂ ∧ News h₀ L h₄ ((s₂.heap.objs.size, lst ys) :: news₄) ∧ (∀ p ∈ news₄, p.1 ∉ wr ∧ p.1 ≠ H2.objs.size ∧ p.1 ≠ s₂.heap.objs.size) ∧ S news₄ ∧ GRest prog w A h₀ L m env ifs elt scope cl s₂ wr S B Fin j (i + 1) ys' news₄ := by
          (intro ys' s₄ hy' hP9; refine ex3 hP9 ?_; clear hP9; intro h₄ tk₄ news₄ hP9; refine an6 hP9 ?_; clear hP9; rintro rfl F₄ N₄ ap₄ hS₄ R₄)
          have N₄' : News h₀ L h₄ news₄ := fun p hp => N₄ p (List.mem_append_right _ hp)
          have zI : AtAll h₄ its := fun p hp => (N₄ p (List.mem_append_left _ (List.mem_append_left _ hp))).1
          have zC := (N₄ (H2.objs.size, oC) (List.mem_append_left _ (List.mem_append_right _ (.head _)))).1
          have zD := N₄ (s₂.heap.objs.size, lst ys) (List.mem_append_left _ (List.mem_append_right _ (.tail _ (.head _))))
          refine in3 h₄ tk₄ news₄ ⟨rfl, hSt _ _ _ its _ hst₃ hat hits zI F₄.keep N₄' hS₄, F₄, hoC.ns zC, fun p hp => ?_, fun p hp => ⟨fun q => ?_, fun q => ?_, fun q => ?_⟩, hS₄, R₄⟩
          · rcases List.mem_cons.mp hp with rfl | hp
            · exact zD
            · exact N₄' p hp
          · obtain ⟨x, hx, e⟩ := List.mem_map.mp (hits ▸ q)
            exact ap₄ x (List.mem_append_left _ hx) p hp e
          · exact ap₄ (H2.objs.size, oC) (List.mem_append_right _ (.head _)) p hp q.symm
          · exact ap₄ (s₂.heap.objs.size, lst ys) (List.mem_append_right _ (.tail _ (.head _))) p hp q.symm
        refine GBody.mono (R' H2.objs.size oC s₂.heap.objs.size m₂ h₃ tk₃ its _ hB hoC hits F₃ N₃ ap) (fun y s₄ h₄ => ?_) (fun s₄ h₄ => ?_) fun _ _ e => e
        · (refine ex3 (fin (ys ++ [y]) s₄ (by rw [List.length_append, List.length_singleton]; omega) h₄) ?_; clear h₄; intro h₄ tk₄ news₄ hP9; refine an8 hP9 ?_; clear hP9; rintro rfl hst₄ F₄ hn₄ N₄ off₄ hS₄ R₄)
          refine append_at (hsz := by show ys.toArray.size ≤ sizeLine; rw [List.size_toArray]; exact Nat.le_trans (Nat.le_trans hyl hi) hsz) (N₄ _ (.head _)).1 fun h₅ hs₅ hD₅ => ?_
          refine ⟨n + 1 - (i + 1), by omega, in6 h₅ tk₄ (i + 1) (ys ++ [y]) _ news₄ ⟨rfl, hlt, rfl, by rw [List.length_append, List.length_singleton]; omega, W.frame _ _ _ hst₄ fun b hb o e => hs₅.extBut b o (fun q => hDf (q ▸ hb)) e, F₄.change hs₅ hDL hD₀,
            hn₄.sameBut hs₅ (Ne.symm hDC), fun p hp => ?_, off₄, hS₄, ?_⟩⟩
          · rcases List.mem_cons.mp hp with rfl | hp
            · exact ⟨hD₅.trans (congrArg some (lst_snoc ys y)), hDL, hD₀⟩
            · exact ⟨hs₅.extBut _ _ (off₄ p hp).2.2 (N₄ p (.tail _ hp)).1, (N₄ p (.tail _ hp)).2⟩
          · rw [show n - (i + 1) = j by omega]
            exact R₄
        · (refine ex3 (fin ys s₄ (by omega) h₄) ?_; clear h₄; intro g₄ tk₄ news₄ hP9; refine an8 hP9 ?_; clear hP9; rintro rfl hst₄ F₄ hn₄ N₄ off₄ hS₄ R₄)
          exact ⟨n + 1 - (i + 1), by omega, in6 g₄ tk₄ (i + 1) ys _ news₄ ⟨rfl, hlt, rfl, by omega, hst₄, F₄, hn₄, N₄, off₄, hS₄, by rw [show n - (i + 1) = j by omega]; exact R₄⟩⟩
      · obtain rfl : i = n := Nat.le_antisymm hi (Nat.not_lt.mp hlt)
        rw [Nat.sub_self] at R'
        refine W.done _ _ _ hst' fun h₂ tk₂ hk₂ => ?_
        refine hRR _ _ h₂ tk₂ m' ys news' ⟨F'.ns.at' fun o e => hk₂ _ o hLw e, fun b o e => hk₂ b o (fun q => by rw [hwr b q] at e; cases e) (F'.keep b o e), F'.above⟩ (fun p hp => ?_) (fun p hp q hq e => ?_) (hn'.at' fun o e => hk₂ _ o hCw e) hC₀ hD₀ hCL hDL (Ne.symm hDC) (fun p hp => (off' p hp).2.1) R'
        · refine ⟨hk₂ _ _ ?_ (N' p hp).1, (N' p hp).2⟩
          rcases List.mem_cons.mp hp with rfl | hp
          · exact hDw
          · exact (off' p hp).1
        · rcases List.mem_cons.mp hp with rfl | hp
          · exact (off' q hq).2.2 e.symm
          · cases hp
    · rcases List.mem_cons.mp hp with rfl | hp
      · exact ⟨hacc, hDL, hD₀⟩
      · exact ⟨old _ _ (N p hp).1, (N p hp).2⟩
  exact codeAny_compStart_list (loop _ rfl) (W.self 0 _ _ _ hst₁ (loop _ rfl))

def GFinE (h₀ : Heap) (L : Addr) (m : Str → Option Value) (s : Shared) (Q : Value → Shared → Prop) (ys : List Value) (news : Led) : Prop :=
  ∀ D h tk, Fr h₀ L h m → News h₀ L h ((D, lst ys) :: news) → Apart [(D, lst ys)] news → Q (.ref D) { s with heap := h, toks := tk }
def GFinA (h₀ : Heap) (L : Addr) (m : Str → Option Value) (s : Shared) (y : Str) (Q : Flow → Shared → Prop) (ys : List Value) (news : Led) : Prop :=
  ∀ D h tk, Fr h₀ L h (fun z => if z = y then some (.ref D) else m z) → News h₀ L h ((D, lst ys) :: news) → Apart [(D, lst ys)] news → Q .next { s with heap := h, toks := tk }

/-- what the iterable must come to -/
def GSrc (prog : Program) (w : World) (A : Around) (h₀ : Heap) (L : Addr) (m : Str → Option Value) (env : Env) (target : Expr) (ifs : List Expr) (elt : Expr) (scope : Scope) (cl : List (Str × Addr)) (Fin : Shared → List Value → Led → Prop) (it : Value) (s₂ : Shared) : Prop :=
  ∃ (I : Addr) (fp wr : List Addr) (n : Nat) (B : Nat → (Str → Option Value) → Prop) (St : Nat → Heap → Prop) (S : Led → Prop) (news : Led), it = .ref I ∧ GTurns prog w A target (fun C => compEnvC scope cl C env) I fp wr n B St ∧ n ≤ sizeLine ∧
    (∀ i h, St i h → ∃ its : Led, its.map (·.1) = wr ∧ AtAll h its) ∧
    (∀ i h h' its nw, St i h → AtAll h its → its.map (·.1) = wr → AtAll h' its → (∀ b o, h₀.get? b = some o → h'.get? b = some o) → News h₀ L h' nw → S nw → St i h') ∧
    St 0 s₂.heap ∧ (∀ b ∈ fp, b < s₂.heap.objs.size) ∧ Fr h₀ L s₂.heap m ∧ News h₀ L s₂.heap news ∧ L ∉ wr ∧ (∀ b ∈ wr, h₀.get? b = none) ∧ (∀ p ∈ news, p.1 ∉ wr) ∧ S news ∧
    GRest prog w A h₀ L m env ifs elt scope cl s₂ wr S B (Fin s₂) n 0 [] news

theorem gcomp_E {elt target iter : Expr} {ifs : List Expr} {scope : Scope} {cl : List (Str × Addr)} {pos : Pos} {Q : Value → Shared → Prop} (_F₀ : Fr h₀ L s.heap m) (hif : ifs.length ≤ 1)
    (hclos : closureFor scope env = pure cl) (hcell : ∀ y ∈ scope.names, y.2 ≠ .cell) (hkind : scope.kind = .function)
    (hnames : ∀ y ∈ scope.names, y.2 = .local → scope.names.lookup y.1 = some .local)
    (h : wpAny (model prog w) A (eval iter env) (fun xv s₁ => wpAny (model prog w) A (pyIter xv) (GSrc prog w A h₀ L m env target ifs elt scope cl (fun s₂ => GFinE h₀ L m s₂ Q)) E s₁) E s)
    (hs : ∀ x, foldedSetIterable iter env x = pure x := by intro _; rfl) :
    wpAny (model prog w) A (eval (.ListComp elt [⟨target, iter, ifs, 0⟩] scope pos) env) Q E s := by
  rw [eval_ListComp]
  refine wpAny_comprehension_free (use := none) rfl hs hclos hkind hnames (wpAny_mono h (fun xv s₁ h₁ => wpAny_mono h₁ (fun it s₂ h₂ => ?_) fun _ _ e => e) fun _ _ e => e)
  (refine ex8 h₂ ?_; clear h₂; intro I fp wr n B St S news hP9; refine an14 hP9 ?_; clear hP9; rintro rfl W hsz hobj hSt hst hfp F N hLw hwr off hS R)
  refine gcomp_block hif W hsz hobj hSt hcell hkind hst hfp F N hLw hwr off hS R ?_
  intro D C h tk m' ys news' F' N' o1 hn hC₀ hD₀ hCL hDL hCD offC fin
  refine ⟨m', hn, fun h'' hs'' => fin D h'' tk (F'.change hs'' hCL hC₀) (fun p hp => ?_) o1⟩
  refine ⟨hs''.extBut _ _ ?_ (N' p hp).1, (N' p hp).2⟩
  rcases List.mem_cons.mp hp with rfl | hp
  · exact Ne.symm hCD
  · exact offC p hp

theorem gcomp_A {elt target iter : Expr} {ifs : List Expr} {y : Str} {py : Pos} {scope : Scope} {cl : List (Str × Addr)} {pos spos : Pos} {Q : Flow → Shared → Prop} (_F₀ : Fr h₀ L s.heap m) (hLe : env.locals = L) (hif : ifs.length ≤ 1)
    (hsw : swapsWith (.ListComp elt [⟨target, iter, ifs, 0⟩] scope pos) (some (.Name y py)) spos.line env = pure true)
    (hclos : closureFor scope env = pure cl) (hcell : ∀ z ∈ scope.names, z.2 ≠ .cell) (hkind : scope.kind = .function)
    (hnames : ∀ z ∈ scope.names, z.2 = .local → scope.names.lookup z.1 = some .local)
    (hy : env.kindOf y = some .local) (hp : (env.scope.kind == .class || (env.scope.kind == .module && env.locals != env.globals)) = false)
    (h : wpAny (model prog w) A (eval iter env) (fun xv s₁ => wpAny (model prog w) A (pyIter xv) (GSrc prog w A h₀ L m env target ifs elt scope cl (fun s₂ => GFinA h₀ L m s₂ y Q)) E s₁) E s)
    (hs : ∀ x, foldedSetIterable iter env x = pure x := by intro _; rfl) :
    wpAny (model prog w) A (exec (.Assign [.Name y py] (.ListComp elt [⟨target, iter, ifs, 0⟩] scope pos) spos) env) Q E s := by
  subst hLe
  rw [exec_Assign_Name_used _ _ _ _ hsw]
  refine wpAny_bind (wpAny_standAt (wpAny_bind ?_))
  show wpAny _ A (do let _ ← comprehension (.ListComp elt [⟨target, iter, ifs, 0⟩] scope pos) scope env _ (newList []) false (eval iter env) (some (assign (.Name y py) env))) _ _ s
  refine wpAny_bind (wpAny_mono (wpAny_comprehension_free (use := some (assign (.Name y py) env)) (Q := fun _ s' => Q .next s') rfl hs hclos hkind hnames
    (wpAny_mono h (fun xv s₁ h₁ => wpAny_mono h₁ (fun it s₂ h₂ => ?_) fun _ _ e => e) fun _ _ e => e)) (fun _ s' hq => wpAny_pure (wpAny_pure hq)) fun _ _ e => e)
  (refine ex8 h₂ ?_; clear h₂; intro I fp wr n B St S news hP9; refine an14 hP9 ?_; clear hP9; rintro rfl W hsz hobj hSt hst hfp F N hLw hwr off hS R)
  refine gcomp_block hif W hsz hobj hSt hcell hkind hst hfp F N hLw hwr off hS R ?_
  intro D C h' tk m' ys news' F' N' o1 hn hC₀ hD₀ hCL hDL hCD offC fin
  show wpAny _ A (assign (.Name y py) env (.ref D)) _ _ _
  refine wpAny_assign_Name (wpAny_storeName_local hy F'.ns (fun h₂ hn₂ hs₂ => ?_) hp)
  have hL₀ : h₀.get? env.locals = none := Heap.get?_none_of_le F'.above
  have F₂ : Fr h₀ env.locals h₂ (fun z => if z = y then some (.ref D) else m z) := ⟨hn₂, fun b o e => hs₂.extBut b o (fun q => by rw [q, hL₀] at e; cases e) (F'.keep b o e), F'.above⟩
  refine ⟨m', hn.sameBut hs₂ hCL, fun h'' hs'' => fin D h'' _ (F₂.change hs'' hCL hC₀) (fun p hp => ?_) o1⟩
  have z : h₂.get? p.1 = some p.2 := hs₂.extBut _ _ (N' p hp).2.1 (N' p hp).1
  refine ⟨hs''.extBut _ _ ?_ z, (N' p hp).2⟩
  rcases List.mem_cons.mp hp with rfl | hp
  · exact Ne.symm hCD
  · exact offC p hp
end
end
section
section
variable {prog : Program} {w : World} {A : Around} {E : Value → Shared → Prop} {s : Shared} {h₀ : Heap} {L : Addr} {m : Str → Option Value} {env : Env} {ifs : List Expr} {elt : Expr} {x : Str} {px : Pos} {scope : Scope} {cl : List (Str × Addr)}
  {Fin : Shared → List Value → Led → Prop} {news : Led}
theorem map1 {its : Led} {I : Addr} (e : its.map (·.1) = [I]) : ∃ o, its = [(I, o)] := by
  rcases its with _ | ⟨⟨a, o⟩, _ | ⟨q, r⟩⟩
  · cases e
  · simp only [List.map_cons, List.map_nil, List.cons.injEq, and_true] at e
    exact ⟨o, by rw [e]⟩
  · simp only [List.map_cons, List.cons.injEq] at e
    exact absurd e.2 (by simp)
theorem map2 {its : Led} {I J : Addr} (e : its.map (·.1) = [I, J]) : ∃ o u, its = [(I, o), (J, u)] := by
  rcases its with _ | ⟨⟨a, o⟩, r⟩
  · cases e
  · simp only [List.map_cons, List.cons.injEq] at e
    obtain ⟨u, hu⟩ := map1 e.2
    exact ⟨o, u, by rw [hu, e.1]⟩

theorem gRest_ind {wr : List Addr} {S : Led → Prop} {B : Nat → (Str → Option Value) → Prop} {Fin : List Value → Led → Prop} {n : Nat} (Inv : Nat → List Value → Led → Prop) (h0 : Inv 0 [] news)
    (step : ∀ i ys nw, i < n → Inv i ys nw → ∀ C oC D m₂ h tk its (E' : Value → Shared → Prop), B i m₂ → NsObj oC m₂ → its.map (·.1) = wr → Fr h₀ L h m → News h₀ L h ((its ++ [(C, oC), (D, lst ys)]) ++ nw) → Apart (its ++ [(C, oC), (D, lst ys)]) nw →
      GBody prog w A ifs elt (compEnvC scope cl C env) (fun y => GEnd h₀ L m { s with heap := h, toks := tk } (its ++ [(C, oC), (D, lst ys)]) S (fun nw' => Inv (i + 1) (ys ++ [y]) nw'))
        (GEnd h₀ L m { s with heap := h, toks := tk } (its ++ [(C, oC), (D, lst ys)]) S (fun nw' => Inv (i + 1) ys nw')) E' { s with heap := h, toks := tk })
    (fin : ∀ ys nw, Inv n ys nw → Fin ys nw) : GRest prog w A h₀ L m env ifs elt scope cl s wr S B Fin n 0 [] news := by
  have key : ∀ k i ys nw, i + k = n → Inv i ys nw → GRest prog w A h₀ L m env ifs elt scope cl s wr S B Fin k i ys nw := by
    intro k
    induction k with
    | zero => intro i ys nw hi hv; exact fin ys nw (by rw [show n = i by omega]; exact hv)
    | succ k ih =>
      intro i ys nw hi hv C oC D m₂ h tk its E' hB hNs hits F N ap
      refine GBody.mono (step i ys nw (by omega) hv C oC D m₂ h tk its E' hB hNs hits F N ap) (fun y s₄ h₄ => ?_) (fun s₄ h₄ => ?_) fun _ _ e => e
      · obtain ⟨h₄, tk₄, nw₄, rfl, F₄, N₄, ap₄, S₄, I₄⟩ := h₄
        exact ⟨h₄, tk₄, nw₄, rfl, F₄, N₄, ap₄, S₄, ih (i + 1) _ _ (by omega) I₄⟩
      · obtain ⟨g₄, tk₄, nw₄, rfl, F₄, N₄, ap₄, S₄, I₄⟩ := h₄
        exact ⟨g₄, tk₄, nw₄, rfl, F₄, N₄, ap₄, S₄, ih (i + 1) _ _ (by omega) I₄⟩
  exact key n 0 [] news (Nat.zero_add _) h0

theorem gsrc_list {ax : Addr} {its : Array Value} {S : Led → Prop} (hh : A.handled = none) (F : Fr h₀ L s.heap m) (N : News h₀ L s.heap news) (hl : s.heap.IsList ax its) (hS : S news) (hsz : its.size ≤ sizeLine)
    (hSl : ∀ h' nw, (∀ b o, h₀.get? b = some o → h'.get? b = some o) → News h₀ L h' nw → S nw → h'.IsList ax its)
    (hkind : scope.kind = .function) (hx : scope.names.lookup x = some .local)
    (h : ∀ g I, GRest prog w A h₀ L m env ifs elt scope cl { s with heap := g } [I] S (fun i m₂ => ∃ v, its[i]? = some v ∧ m₂ x = some v) (Fin { s with heap := g }) its.size 0 [] news) :
    wpAny (model prog w) A (pyIter (.ref ax)) (GSrc prog w A h₀ L m env (.Name x px) ifs elt scope cl Fin) E s := by
  have hlt : ax < s.heap.objs.size := by obtain ⟨_, e, _⟩ := hl; exact Heap.lt_size e
  refine wpAny_pyIter_list hl ?_
  have up : ∀ b o, s.heap.get? b = some o → (s.heap.push { cls := .type "list_iterator", data := .fields #[.ref ax, .int 0 0] }).get? b = some o := fun b o e => Heap.get?_push_of_some _ e
  refine ⟨s.heap.objs.size, [s.heap.objs.size, ax], [s.heap.objs.size], its.size, (fun i m₂ => ∃ v, its[i]? = some v ∧ m₂ x = some v), (fun i h => h.IsListIter s.heap.objs.size ax i ∧ h.IsList ax its), S, news, rfl, GTurns.ofWalks (Walks.list hh s.heap.objs.size ax (Nat.ne_of_lt hlt) its) hkind hx, hsz, ?_, ?_,
    ⟨⟨_, Heap.get?_push_size _ rfl, rfl, rfl⟩, hl.push _⟩, ?_, F.keeps up, N.grown up, ?_, ?_, ?_, hS, h _ _⟩
  · intro i h st
    obtain ⟨o, e, _⟩ := st.1
    exact ⟨[(_, o)], rfl, atAll_cons e (atAll_nil _)⟩
  · intro i h h' it nw st hi e hi' hk N' hS'
    obtain ⟨o, rfl⟩ := map1 e
    obtain ⟨o', q, r⟩ := st.1
    have e1 := hi _ (.head _)
    dsimp only at e1
    rw [q] at e1; cases e1
    exact ⟨⟨_, hi' _ (.head _), r⟩, hSl _ _ hk N' hS'⟩
  · intro b hb
    show b < (s.heap.push _).objs.size
    rw [Heap.size_push]
    rcases List.mem_cons.mp hb with rfl | hb
    · exact Nat.lt_succ_self _
    · rw [List.mem_singleton.mp hb]; exact Nat.lt_succ_of_lt hlt
  · intro q; exact absurd F.ns.lt ((List.mem_singleton.mp q) ▸ Nat.lt_irrefl _)
  · intro b hb; rw [List.mem_singleton.mp hb]; exact next_is_new F
  · intro p hp q; exact absurd (Heap.lt_size (N p hp).1) ((List.mem_singleton.mp q) ▸ Nat.lt_irrefl _)

/-- a list of the base -/
theorem gsrc_base {ax : Addr} {its : Array Value} (hh : A.handled = none) (F : Fr h₀ L s.heap m) (N : News h₀ L s.heap news) (hl : h₀.IsList ax its) (hsz : its.size ≤ sizeLine)
    (hkind : scope.kind = .function) (hx : scope.names.lookup x = some .local)
    (h : ∀ g I, GRest prog w A h₀ L m env ifs elt scope cl { s with heap := g } [I] (fun _ => True) (fun i m₂ => ∃ v, its[i]? = some v ∧ m₂ x = some v) (Fin { s with heap := g }) its.size 0 [] news) :
    wpAny (model prog w) A (pyIter (.ref ax)) (GSrc prog w A h₀ L m env (.Name x px) ifs elt scope cl Fin) E s :=
  gsrc_list hh F N (stays_list F.keep hl) trivial hsz (fun _ _ hk _ _ => stays_list hk hl) hkind hx h
/-- a list of the ledger -/
theorem gsrc_led {ax : Addr} {its : Array Value} {k : Nat} (hh : A.handled = none) (F : Fr h₀ L s.heap m) (N : News h₀ L s.heap news) (hm : (ax, listOf its k) ∈ news) (hsz : its.size ≤ sizeLine)
    (hkind : scope.kind = .function) (hx : scope.names.lookup x = some .local)
    (h : ∀ g I, GRest prog w A h₀ L m env ifs elt scope cl { s with heap := g } [I] (fun nw => (ax, listOf its k) ∈ nw) (fun i m₂ => ∃ v, its[i]? = some v ∧ m₂ x = some v) (Fin { s with heap := g }) its.size 0 [] news) :
    wpAny (model prog w) A (pyIter (.ref ax)) (GSrc prog w A h₀ L m env (.Name x px) ifs elt scope cl Fin) E s :=
  gsrc_list hh F N ⟨_, (N _ hm).1, rfl, k, rfl⟩ hm hsz (fun _ _ _ N' hS => ⟨_, (N' _ hS).1, rfl, k, rfl⟩) hkind hx h

theorem gsrc_range {r : Addr} {a b c : Int} {t u v : Tok} {n : Nat} (hh : A.handled = none) (F : Fr h₀ L s.heap m) (N : News h₀ L s.heap news) (hr : IsRange s.heap r a b c t u v) (hsm : Builtin.Range.small a b c = true) (hn : Builtin.Range.rangeSize a b c = ((n : Nat) : Int)) (hsz : n ≤ sizeLine)
    (hkind : scope.kind = .function) (hx : scope.names.lookup x = some .local)
    (h : ∀ g I, GRest prog w A h₀ L m env ifs elt scope cl { s with heap := g } [I] (fun _ => True) (fun i m₂ => ∃ v, (∃ t, v = .int (a + i * c) t) ∧ m₂ x = some v) (Fin { s with heap := g }) n 0 [] news) :
    wpAny (model prog w) A (pyIter (.ref r)) (GSrc prog w A h₀ L m env (.Name x px) ifs elt scope cl Fin) E s := by
  refine wpAny_pyIter_range hr hsm ?_
  have up : ∀ d o, s.heap.get? d = some o → (s.heap.push { cls := .type "range_iterator", data := .fields #[rawInt a, rawInt (Builtin.Range.rangeSize a b c), rawInt c] }).get? d = some o := fun d o e => Heap.get?_push_of_some _ e
  refine ⟨s.heap.objs.size, [s.heap.objs.size], [s.heap.objs.size], n, (fun i m₂ => ∃ v, (∃ t, v = .int (a + i * c) t) ∧ m₂ x = some v), (fun i h => IsRangeIter h s.heap.objs.size (a + (i : Nat) * c) ((n : Int) - (i : Nat)) c), (fun _ => True), news, rfl, GTurns.ofWalks (Walks.range hh s.heap.objs.size a c n) hkind hx, hsz, (fun i h st => ⟨[(_, _)], rfl, atAll_cons st (atAll_nil _)⟩), ?_,
    ?_, ?_, F.keeps up, N.grown up, ?_, ?_, ?_, trivial, h _ _⟩
  · intro i h h' it nw st hi e hi' hk N' hS'
    obtain ⟨o, rfl⟩ := map1 e
    have e1 := hi _ (.head _)
    have st' : h.get? s.heap.objs.size = some _ := st
    dsimp only at e1
    rw [st'] at e1; cases e1
    exact hi' _ (.head _)
  · show IsRangeIter _ _ _ _ _
    rw [hn]; simpa using Heap.get?_push_size _ rfl
  · intro b hb
    rw [List.mem_singleton.mp hb]
    show s.heap.objs.size < (s.heap.push _).objs.size
    rw [Heap.size_push]; exact Nat.lt_succ_self _
  · intro q; exact absurd F.ns.lt ((List.mem_singleton.mp q) ▸ Nat.lt_irrefl _)
  · intro b hb; rw [List.mem_singleton.mp hb]; exact next_is_new F
  · intro p hp q; exact absurd (Heap.lt_size (N p hp).1) ((List.mem_singleton.mp q) ▸ Nat.lt_irrefl _)

theorem gsrc_str {z : Str} {t : Tok} (hh : A.handled = none) (F : Fr h₀ L s.heap m) (N : News h₀ L s.heap news) (hsz : z.cps.size ≤ sizeLine)
    (hkind : scope.kind = .function) (hx : scope.names.lookup x = some .local)
    (h : ∀ g I, GRest prog w A h₀ L m env ifs elt scope cl { s with heap := g } [I] (fun _ => True) (fun i m₂ => ∃ v, SignAt z i v ∧ m₂ x = some v) (Fin { s with heap := g }) z.cps.size 0 [] news) :
    wpAny (model prog w) A (pyIter (.str z t)) (GSrc prog w A h₀ L m env (.Name x px) ifs elt scope cl Fin) E s := by
  have key : ∀ (ty : String) (o : Obj), o = { cls := .type ty, data := .fields #[.str z t, .int 0 0] } → Walks prog w A s.heap.objs.size [s.heap.objs.size] [s.heap.objs.size] z.cps.size (SignAt z) (fun i h => h.IsStrIter s.heap.objs.size ty z t i) →
      GSrc prog w A h₀ L m env (.Name x px) ifs elt scope cl Fin (.ref s.heap.objs.size) { s with heap := s.heap.push o } := by
    rintro ty o rfl W
    refine ⟨s.heap.objs.size, [s.heap.objs.size], [s.heap.objs.size], z.cps.size, (fun i m₂ => ∃ v, SignAt z i v ∧ m₂ x = some v), (fun i h => h.IsStrIter s.heap.objs.size ty z t i), (fun _ => True), news, rfl, GTurns.ofWalks W hkind hx, hsz, ?_, ?_,
      ⟨_, Heap.get?_push_size _ rfl, rfl, rfl⟩, ?_, F.keeps (fun b o e => Heap.get?_push_of_some _ e), N.grown (fun b o e => Heap.get?_push_of_some _ e), ?_, ?_, ?_, trivial, h _ _⟩
    · intro i h st
      obtain ⟨o, e, _⟩ := st
      exact ⟨[(_, o)], rfl, atAll_cons e (atAll_nil _)⟩
    · intro i h h' it nw st hi e hi' hk N' hS'
      obtain ⟨o, rfl⟩ := map1 e
      obtain ⟨o', q, r⟩ := st
      have e1 := hi _ (.head _)
      dsimp only at e1
      rw [q] at e1; cases e1
      exact ⟨_, hi' _ (.head _), r⟩
    · intro b hb
      rw [List.mem_singleton.mp hb]
      show s.heap.objs.size < (s.heap.push _).objs.size
      rw [Heap.size_push]; exact Nat.lt_succ_self _
    · intro q; exact absurd F.ns.lt ((List.mem_singleton.mp q) ▸ Nat.lt_irrefl _)
    · intro b hb; rw [List.mem_singleton.mp hb]; exact next_is_new F
    · intro p hp q; exact absurd (Heap.lt_size (N p hp).1) ((List.mem_singleton.mp q) ▸ Nat.lt_irrefl _)
  cases ha : z.cps.all (· < 128)
  · exact wpAny_pyIter_wide ha (key _ _ rfl (Walks.strWide hh _ z t))
  · exact wpAny_pyIter_ascii ha (key _ _ rfl (Walks.strAscii hh _ z t))

theorem gsrc_enum {ax : Addr} {its : Array Value} {S : Led → Prop} {a b : Str} {pa pb tp : Pos} {kk : Nat} (hh : A.handled = none) (F : Fr h₀ L s.heap m) (N : News h₀ L s.heap news) (hl : s.heap.IsList ax its) (hS : S news) (hsz : its.size ≤ sizeLine)
    (hSl : ∀ h' nw, (∀ b o, h₀.get? b = some o → h'.get? b = some o) → News h₀ L h' nw → S nw → h'.IsList ax its)
    (hkind : scope.kind = .function) (ha : scope.names.lookup a = some .local) (hb : scope.names.lookup b = some .local) (hab : ¬ a = b)
    (h : ∀ g I J, GRest prog w A h₀ L m env ifs elt scope cl { s with heap := g } [I, J] S (fun i m₂ => ∃ u v, (∃ t x, its[i]? = some x ∧ #[u, v] = #[.int (i : Int) t, x]) ∧ m₂ a = some u ∧ m₂ b = some v) (Fin { s with heap := g }) its.size 0 [] news) :
    wpAny (model prog w) A (call (.type "enumerate") [.ref ax]) (fun xv s₁ => wpAny (model prog w) A (pyIter xv) (GSrc prog w A h₀ L m env (.Tuple [.Name a pa, .Name b pb] kk tp) ifs elt scope cl Fin) E s₁) E s := by
  have hlt : ax < s.heap.objs.size := by obtain ⟨_, e, _⟩ := hl; exact Heap.lt_size e
  refine call_enumerate_list hl fun h' he hit hz up => ?_
  refine wpAny_pyIter_enum he ?_
  have e12 : s.heap.objs.size + 1 ≠ s.heap.objs.size := Nat.succ_ne_self _
  refine ⟨s.heap.objs.size + 1, [s.heap.objs.size + 1, s.heap.objs.size, ax], [s.heap.objs.size + 1, s.heap.objs.size], its.size, (fun i m₂ => ∃ u v, (∃ t x, its[i]? = some x ∧ #[u, v] = #[.int (i : Int) t, x]) ∧ m₂ a = some u ∧ m₂ b = some v), (fun i h => (∃ old, IsEnum h (s.heap.objs.size + 1) s.heap.objs.size i old) ∧ h.IsListIter s.heap.objs.size ax i ∧ h.IsList ax its), S, news, rfl, GTurns.ofWalksU (WalksT.toU (WalksT.enumerate hh (s.heap.objs.size + 1) s.heap.objs.size ax e12 (Nat.ne_of_lt (Nat.lt_succ_of_lt hlt)) (Nat.ne_of_lt hlt) its)) hh (fun i vals q => by obtain ⟨t, x, _, e⟩ := q; exact ⟨_, _, e⟩) hkind ha hb hab, hsz, ?_, ?_,
    ⟨⟨_, he⟩, hit, stays_list up hl⟩, ?_, F.keeps up, N.grown up, ?_, ?_, ?_, hS, h _ _ _⟩
  · intro i h st
    obtain ⟨⟨old, e1⟩, ⟨o, e2, _⟩, _⟩ := st
    exact ⟨[(_, _), (_, o)], rfl, atAll_cons e1 (atAll_cons e2 (atAll_nil _))⟩
  · intro i h h' it nw st hi e hi' hk N' hS'
    obtain ⟨o, u, rfl⟩ := map2 e
    obtain ⟨⟨old, f1⟩, ⟨o', f2, r⟩, _⟩ := st
    have e1 := hi _ (.head _)
    have e2 := hi _ (.tail _ (.head _))
    dsimp only at e1 e2
    have f1' : h.get? (s.heap.objs.size + 1) = some _ := f1
    rw [f1'] at e1; cases e1
    rw [f2] at e2; cases e2
    exact ⟨⟨old, hi' _ (.head _)⟩, ⟨_, hi' _ (.tail _ (.head _)), r⟩, hSl _ _ hk N' hS'⟩
  · intro b hb
    have hz' : h'.objs.size = s.heap.objs.size + 2 := hz
    show b < h'.objs.size
    rw [hz']
    rcases List.mem_cons.mp hb with rfl | hb
    · exact Nat.lt_succ_self _
    · rcases List.mem_cons.mp hb with rfl | hb
      · exact Nat.lt_succ_of_lt (Nat.lt_succ_self _)
      · rw [List.mem_singleton.mp hb]; exact Nat.lt_succ_of_lt (Nat.lt_succ_of_lt hlt)
  · intro q
    rcases List.mem_cons.mp q with q | q
    · exact absurd (Nat.lt_succ_of_lt F.ns.lt) (q ▸ Nat.lt_irrefl _)
    · exact absurd F.ns.lt ((List.mem_singleton.mp q) ▸ Nat.lt_irrefl _)
  · intro b hb
    rcases List.mem_cons.mp hb with rfl | hb
    · exact ktu_new F (Nat.le_succ _)
    · rw [List.mem_singleton.mp hb]; exact next_is_new F
  · intro p hp q
    rcases List.mem_cons.mp q with q | q
    · exact absurd (Nat.lt_succ_of_lt (Heap.lt_size (N p hp).1)) (q ▸ Nat.lt_irrefl _)
    · exact absurd (Heap.lt_size (N p hp).1) ((List.mem_singleton.mp q) ▸ Nat.lt_irrefl _)
theorem gsrc_enumB {ax : Addr} {its : Array Value} {a b : Str} {pa pb tp : Pos} {kk : Nat} (hh : A.handled = none) (F : Fr h₀ L s.heap m) (N : News h₀ L s.heap news) (hl : h₀.IsList ax its) (hsz : its.size ≤ sizeLine)
    (hkind : scope.kind = .function) (ha : scope.names.lookup a = some .local) (hb : scope.names.lookup b = some .local) (hab : ¬ a = b)
    (h : ∀ g I J, GRest prog w A h₀ L m env ifs elt scope cl { s with heap := g } [I, J] (fun _ => True) (fun i m₂ => ∃ u v, (∃ t x, its[i]? = some x ∧ #[u, v] = #[.int (i : Int) t, x]) ∧ m₂ a = some u ∧ m₂ b = some v) (Fin { s with heap := g }) its.size 0 [] news) :
    wpAny (model prog w) A (call (.type "enumerate") [.ref ax]) (fun xv s₁ => wpAny (model prog w) A (pyIter xv) (GSrc prog w A h₀ L m env (.Tuple [.Name a pa, .Name b pb] kk tp) ifs elt scope cl Fin) E s₁) E s :=
  gsrc_enum hh F N (stays_list F.keep hl) trivial hsz (fun _ _ hk _ _ => stays_list hk hl) hkind ha hb hab h
theorem gsrc_enumL {ax : Addr} {its : Array Value} {k : Nat} {a b : Str} {pa pb tp : Pos} {kk : Nat} (hh : A.handled = none) (F : Fr h₀ L s.heap m) (N : News h₀ L s.heap news) (hm : (ax, listOf its k) ∈ news) (hsz : its.size ≤ sizeLine)
    (hkind : scope.kind = .function) (ha : scope.names.lookup a = some .local) (hb : scope.names.lookup b = some .local) (hab : ¬ a = b)
    (h : ∀ g I J, GRest prog w A h₀ L m env ifs elt scope cl { s with heap := g } [I, J] (fun nw => (ax, listOf its k) ∈ nw) (fun i m₂ => ∃ u v, (∃ t x, its[i]? = some x ∧ #[u, v] = #[.int (i : Int) t, x]) ∧ m₂ a = some u ∧ m₂ b = some v) (Fin { s with heap := g }) its.size 0 [] news) :
    wpAny (model prog w) A (call (.type "enumerate") [.ref ax]) (fun xv s₁ => wpAny (model prog w) A (pyIter xv) (GSrc prog w A h₀ L m env (.Tuple [.Name a pa, .Name b pb] kk tp) ifs elt scope cl Fin) E s₁) E s :=
  gsrc_enum hh F N ⟨_, (N _ hm).1, rfl, k, rfl⟩ hm hsz (fun _ _ _ N' hS => ⟨_, (N' _ hS).1, rfl, k, rfl⟩) hkind ha hb hab h
end
end
section
theorem sub_refl {α : Type} {a : List α} : ∀ p ∈ a, p ∈ a := fun _ h => h
theorem sub_skip {α : Type} {a b : List α} {x : α} (k : ∀ p ∈ a, p ∈ b) : ∀ p ∈ a, p ∈ x :: b := fun p hp => .tail _ (k p hp)
theorem sub_appR {α : Type} {a b c : List α} (k : ∀ p ∈ a, p ∈ c) : ∀ p ∈ a, p ∈ b ++ c := fun p hp => List.mem_append_right _ (k p hp)
theorem sub_appL {α : Type} {a b c : List α} (k : ∀ p ∈ a, p ∈ b) : ∀ p ∈ a, p ∈ b ++ c := fun p hp => List.mem_append_left _ (k p hp)
theorem apart_newR {q : Addr × Obj} {a b c : Led} (h : Apart [q] c) (ha : ∀ p ∈ a, p ∈ c) (k : Apart a b) : Apart a (q :: b) := fun p hp r hr => by
  rcases List.mem_cons.mp hr with rfl | hr
  · exact fun e => h r (.head _) p (ha p hp) e.symm
  · exact k p hp r hr
theorem apart_newL {q : Addr × Obj} {a b c : Led} (h : Apart [q] c) (hb : ∀ p ∈ b, p ∈ c) (k : Apart a b) : Apart (q :: a) b := fun p hp r hr => by
  rcases List.mem_cons.mp hp with rfl | hp
  · exact h p (.head _) r (hb r hr)
  · exact k p hp r hr
theorem apart_mono {a b a' b' : Led} (h : Apart a b) (ha : ∀ p ∈ a', p ∈ a) (hb : ∀ p ∈ b', p ∈ b) : Apart a' b' := fun p hp r hr => h p (ha p hp) r (hb r hr)
theorem news_rot {g : Heap} {L : Addr} {h : Heap} {F T B : Led} (N : News g L h (F ++ (T ++ B))) : News g L h (B ++ (F ++ T)) := fun p hp => N p (by
  rcases List.mem_append.mp hp with hp | hp
  · exact List.mem_append_right _ (List.mem_append_right _ hp)
  · rcases List.mem_append.mp hp with hp | hp
    · exact List.mem_append_left _ hp
    · exact List.mem_append_right _ (List.mem_append_left _ hp))
theorem news_tor {g : Heap} {L : Addr} {h : Heap} {F T B : Led} (N : News g L h (B ++ (F ++ T))) : News g L h (F ++ (T ++ B)) := fun p hp => N p (by
  rcases List.mem_append.mp hp with hp | hp
  · exact List.mem_append_right _ (List.mem_append_left _ hp)
  · rcases List.mem_append.mp hp with hp | hp
    · exact List.mem_append_right _ (List.mem_append_right _ hp)
    · exact List.mem_append_left _ hp)
theorem apart_two {a b c : Led} (h1 : Apart a b) (h2 : Apart a c) : Apart a (b ++ c) := fun p hp q hq => (List.mem_append.mp hq).elim (h1 p hp q) (h2 p hp q)
theorem sub_appI {α : Type} {a b c : List α} (h1 : ∀ p ∈ a, p ∈ c) (h2 : ∀ p ∈ b, p ∈ c) : ∀ p ∈ a ++ b, p ∈ c := fun p hp => (List.mem_append.mp hp).elim (h1 p) (h2 p)
/-- what a walk leads to, said by a name -/
theorem gen_Q {M : Model} {A : Around} {α : Type} {c : Sem α} {Q : α → Shared → Prop} {E : Value → Shared → Prop} {s : Shared} (h : ∀ (Q' : α → Shared → Prop), (∀ f s', Q f s' → Q' f s') → wpAny M A c Q' E s) : wpAny M A c Q E s := h Q (fun _ _ h => h)
theorem take_all {α : Type} {l : List α} {n : Nat} (h : l.length ≤ n) : l.take n = l := List.take_of_length_le h
section
variable {prog : Program} {w : World} {A : Around} {h₀ : Heap} {L : Addr} {m : Str → Option Value} {env : Env} {ifs : List Expr} {elt : Expr} {scope : Scope} {cl : List (Str × Addr)} {s : Shared} {news : Led}
/-- as gRest_ind, where what a turn leads to is said by a name -/
theorem gRest_indQ {wr : List Addr} {S : Led → Prop} {B : Nat → (Str → Option Value) → Prop} {Fin : List Value → Led → Prop} {n : Nat} (Inv : Nat → List Value → Led → Prop) (h0 : Inv 0 [] news)
    (step : ∀ i ys nw, i < n → Inv i ys nw → ∀ C oC D m₂ h tk its (E' : Value → Shared → Prop), B i m₂ → NsObj oC m₂ → its.map (·.1) = wr → Fr h₀ L h m → News h₀ L h ((its ++ [(C, oC), (D, lst ys)]) ++ nw) → Apart (its ++ [(C, oC), (D, lst ys)]) nw →
      ∀ (Qy : Value → Shared → Prop) (Qs : Shared → Prop), (∀ y h' tk' nw', Fr h₀ L h' m → News h₀ L h' ((its ++ [(C, oC), (D, lst ys)]) ++ nw') → Apart (its ++ [(C, oC), (D, lst ys)]) nw' → S nw' → Inv (i + 1) (ys ++ [y]) nw' → Qy y { s with heap := h', toks := tk' }) →
      (∀ h' tk' nw', Fr h₀ L h' m → News h₀ L h' ((its ++ [(C, oC), (D, lst ys)]) ++ nw') → Apart (its ++ [(C, oC), (D, lst ys)]) nw' → S nw' → Inv (i + 1) ys nw' → Qs { s with heap := h', toks := tk' }) →
      GBody prog w A ifs elt (compEnvC scope cl C env) Qy Qs E' { s with heap := h, toks := tk })
    (fin : ∀ ys nw, Inv n ys nw → Fin ys nw) : GRest prog w A h₀ L m env ifs elt scope cl s wr S B Fin n 0 [] news :=
  gRest_ind Inv h0 (fun i ys nw hi hv C oC D m₂ h tk its E' hB hNs hits F N ap => step i ys nw hi hv C oC D m₂ h tk its E' hB hNs hits F N ap _ _
    (fun _ _ _ _ F' N' ap' S' I' => GEnd.intro F' N' ap' S' I') (fun _ _ _ F' N' ap' S' I' => GEnd.intro F' N' ap' S' I')) fin
end
end
section
theorem ints_append {vs ws : List Value} {ns ms : List Int} (h : IntsAre vs ns) (g : IntsAre ws ms) : IntsAre (vs ++ ws) (ns ++ ms) := by
  induction h with
  | nil => exact g
  | cons n t _ ih => exact .cons n t ih
theorem ints_snoc {vs : List Value} {ns : List Int} {k : Int} {t : Tok} (h : IntsAre vs ns) : IntsAre (vs ++ [.int k t]) (ns ++ [k]) := ints_append h (.cons _ _ .nil)
theorem ints_at {vs : List Value} {ns : List Int} (h : IntsAre vs ns) {i : Nat} {v : Value} (e : vs.toArray[i]? = some v) : ∃ n t, v = .int n t ∧ ns[i]? = some n := IntsAre.at h i v (by simpa using e)
theorem size_le {vs : List Value} {ns : List Int} (h : IntsAre vs ns) {k : Nat} (hk : ns.length ≤ k) (hs : k ≤ 10000) : vs.toArray.size ≤ sizeLine := by
  have e := IntsAre.length h
  have e2 : vs.toArray.size = vs.length := List.size_toArray ..
  rw [e2, e, sizeLine_eq]
  omega
theorem news_rest {h₀ h : Heap} {L : Addr} {new rest : Led} (N : News h₀ L h (new ++ rest)) : News h₀ L h ([] ++ rest) := fun p hp => N p (List.mem_append_right _ hp)
def Hold (P : Prop) : Prop := P
theorem hold_out {P : Prop} (h : Hold P) : P := h
theorem hold_in {P : Prop} (h : P) : Hold P := h
/-! worth -/
def worthL (ns : List Int) (sh : Nat) : Nat → List Int → List Int
  | _, [] => []
  | k, f :: r => f * ns.getD (k + sh) 0 :: worthL ns sh (k + 1) r
theorem worthL_take (ns : List Int) (sh : Nat) : ∀ (fs : List Int) (k i : Nat) (f : Int), fs[i]? = some f → worthL ns sh k (fs.take (i + 1)) = worthL ns sh k (fs.take i) ++ [f * ns.getD (k + i + sh) 0]
  | [], k, i, f, h => by simp at h
  | g :: r, k, 0, f, h => by
    simp at h; subst h
    simp [worthL]
  | g :: r, k, i + 1, f, h => by
    have h' : r[i]? = some f := by simpa using h
    have ih := worthL_take ns sh r (k + 1) i f h'
    simp only [List.take_succ_cons, worthL, List.cons_append]
    rw [ih, show k + 1 + i + sh = k + (i + 1) + sh by omega]
def stepsL : List Int := [1, 2, 3, 5, 8, 13, 21, 34, 55, 89, 144, 233, 377, 610, 987, 1597, 2584, 4181, 6765, 10946, 17711, 28657, 46368, 75025, 121393, 196418, 317811]
def PairLe (u n : Int) : Prop := u * (u + n + 1) ≤ (n + 1) ^ 2
theorem steps_step (k : Nat) (h1 : 1 ≤ k) (h2 : k ≤ 25) : stepsL.take (27 - (k - 1)) = stepsL.take (27 - k) ++ [(stepsL.take (27 - k)).getD (-1 + ((stepsL.take (27 - k)).length : Int)).toNat 0 + (stepsL.take (27 - k)).getD (-2 + ((stepsL.take (27 - k)).length : Int)).toNat 0] := by
  have h : ∀ k : Fin 26, 1 ≤ k.1 → stepsL.take (27 - (k.1 - 1)) = stepsL.take (27 - k.1) ++ [(stepsL.take (27 - k.1)).getD (-1 + ((stepsL.take (27 - k.1)).length : Int)).toNat 0 + (stepsL.take (27 - k.1)).getD (-2 + ((stepsL.take (27 - k.1)).length : Int)).toNat 0] := by decide +kernel
  exact h ⟨k, by omega⟩ h1
theorem ints_push {vs : List Value} {ns ms : List Int} {k : Int} {t : Tok} (h : IntsAre vs ns) (e : ms = ns ++ [k]) : IntsAre (vs.toArray.push (.int k t)).toList ms := by
  rw [e]
  have e2 : (vs.toArray.push (.int k t)).toList = vs ++ [.int k t] := by simp
  rw [e2]; exact ints_snoc h
theorem pairLe_step {u n : Int} (hn : 0 ≤ n) (h0 : 0 ≤ u) (h1 : u ≤ n + 1) (h : PairLe (u + 1) n) : u + 1 ≤ n + 1 := by
  unfold PairLe at h
  refine Decidable.byContradiction fun hc => ?_
  have hu : u = n + 1 := by omega
  subst hu
  have e1 : (n + 1 + 1) * (n + 1 + 1 + n + 1) = (n + 1) ^ 2 + ((n + 1) * (n + 4) + 1) := by grind
  rw [e1] at h
  have e3 : 0 ≤ (n + 1) * (n + 4) := Int.mul_nonneg (by omega) (by omega)
  omega
theorem wstep {h₀ h' : Heap} {L : Addr} {s : Shared} {J : Nat → (Str → Option Value) → List (Addr × Obj) → Prop} {n tk : Nat} {m₂ : Str → Option Value} {news₂ : List (Addr × Obj)}
    (F : Fr h₀ L h' m₂) (N : News h₀ L h' news₂) (hJ : ∃ n', n' < n ∧ J n' m₂ news₂) : WhileStep h₀ L s J n .next { s with heap := h', toks := tk } :=
  let ⟨_, hn, h⟩ := hJ; WhileStep.intro F N hn h
theorem pairLe_of {u n : Int} {k : Nat} (hk : k = 2) (h : (u + 1) * (u + n + 2) ≤ (n + 1) ^ k) : PairLe (u + 1) n := by
  unfold PairLe; subst hk
  rw [show u + 1 + n + 1 = u + n + 2 by omega]; exact h
theorem pairLe_not {u n : Int} {k : Nat} (hk : k = 2) (h : ¬ (u + 1) * (u + n + 2) ≤ (n + 1) ^ k) : ¬ PairLe (u + 1) n := by
  unfold PairLe; subst hk
  rw [show u + 1 + n + 1 = u + n + 2 by omega]; exact h

theorem foldl_rep {α : Type} (v : α) : ∀ (n : Nat) (acc : Array α), List.foldl (fun x1 x2 => x1 ++ x2) acc (List.replicate n #[v]) = acc ++ (List.replicate n v).toArray
  | 0, acc => by simp
  | n + 1, acc => by
    rw [List.replicate_succ, List.foldl_cons, foldl_rep v n, List.replicate_succ]
    apply Array.ext'
    simp
section
variable {prog : Program} {w : World} {A : Around} {E : Value → Shared → Prop} {s : Shared} {h₀ : Heap} {L : Addr} {m : Str → Option Value} {news : Led}
theorem mul_one {l : Addr} {k : Nat} {v : Value} {x : Int} {u : Tok} {Q : Value → Shared → Prop} (F : Fr h₀ L s.heap m) (N : News h₀ L s.heap news) (hm : (l, listOf #[v] k) ∈ news) (h0 : 0 ≤ x) (hx : x ≤ 10000)
    (h : ∀ D h', Fr h₀ L h' m → News h₀ L h' ((D, listOf (List.replicate x.toNat v).toArray 0) :: news) → (∀ p ∈ news, p.1 < D) → Q (.ref D) { s with heap := h' }) :
    wpAny (model prog w) A (binaryOp .Mult (.ref l) (.int x u)) Q E s := by
  refine mul_list F N (N _ hm).1 (by omega) (by omega) (by show 1 * x.toNat ≤ 2 ^ 24; omega) fun h' F' N' => ?_
  have e : (if (#[v] : Array Value).isEmpty = true then 0 else x.toNat) = x.toNat := by simp
  rw [e, foldl_rep, Array.empty_append] at N'
  exact h _ h' F' N' fun p hp => Heap.lt_size (N p hp).1
end
def defBody : Stmt → List Stmt
  | .FunctionDef _ _ b .. => b
  | _ => []
def isDefOf (n : Str) : Stmt → Bool
  | .FunctionDef m .. => m == n
  | _ => false
/-- the k-th statement of the text's def of that name -/
def stmtOf (n : Str) (k : Nat) : Stmt := (defBody ((PySem.Challenge.pw_sw0064_01.main.body.find? (isDefOf n)).getD (.Pass default))).getD k (.Pass default)
section
variable {w : World} {f : Value} {vs : List Value} {D U : Nat} {ro foot : Led} {Post : Value → Led → Prop}
theorem Spec.use (S : Spec w f vs D U ro foot Post) {p : Program} {loose : List Str} {mean : ExcName → Option Value} {mg mb : Str → Option Value} {dp un : Nat} {gd : Option (List Code)} {cn : Str} {nm : List (Str × NameKind)} {g1 g2 : Bool} {mr : List (Str × Const)} {a : Addr} {ccd : Value} {cl : List (Str × Addr)} {outer : List Env} {A₀ : Around} {base h₀ : Heap} {L : Addr} {m : Str → Option Value} {rest : Led} {s : Shared} {Q E : Value → Shared → Prop}
    (B : Below A₀ base outer h₀) (F : Fr h₀ L s.heap m) (X : (Mine.hd.heap_39 w.params).In h₀) (N : News h₀ L s.heap (foot ++ rest)) (hap : Apart foot rest) (hro : AtAll s.heap ro) (hdr : Apart ro foot) (T : Top p loose mean mg mb h₀) (hd : dp + D < recursionLimit) (hu : un + U < cLine)
    (ret : ∀ (r : Value) (new : Led) (h' : Heap) (tk' : Nat), Post r new → Fr h₀ L h' m → News h₀ L h' (new ++ rest) → Apart new rest → Q r { s with heap := h', toks := tk' }) :
    wpAny (model PySem.Challenge.rw_sw0064_01.row.prog w) (ktrTop dp un gd cn { kind := .function, names := nm, isGenerator := g1, isCoroutine := g2, more := mr } L a ccd cl outer) (call f vs) Q E s :=
  S _ _ _ _ _ _ _ _ _ _ _ _ _ _ _ _ _ _ _ _ _ _ _ _ _ _ B F X N hap hro hdr T hd hu ret
end
section
variable {prog : Program} {w : World} {A : Around} {E : Value → Shared → Prop} {s : Shared} {h₀ : Heap} {L : Addr} {m : Str → Option Value} {news : Led}
theorem m_len {l : Addr} {its : Array Value} {k : Nat} {Q : Value → Shared → Prop} (N : News h₀ L s.heap news) (hm : (l, listOf its k) ∈ news) (hsz : its.size ≤ 10000) (h : Q (.int its.size (s.toks + 1)) { s with toks := s.toks + 1 + 1 }) :
    wpAny (model prog w) A (call (.builtin "len") [.ref l]) Q E s := Calls.call_len_list ⟨_, (N _ hm).1, rfl, k, rfl⟩ (by omega) h
end
def FnCode (oc : Obj) (qual : Str) : Prop := ∃ cvs t, oc.data = .fields cvs ∧ cvs[1]? = some (.str qual t)
theorem fnCode_rec {h₀ h : Heap} {L c : Addr} {oc : Obj} {qual : Str} {news : Led} (N : News h₀ L h news) (hm : (c, oc) ∈ news) (hc : FnCode oc qual) : h.CodeRec (.ref c) qual := by
  obtain ⟨cvs, t, h1, h2⟩ := hc
  exact codeRec_news N hm h1 h2
/-! digits -/
theorem two_pow_pos (k : Nat) : 0 < 2 ^ k := Nat.two_pow_pos k
theorem dig_low (x a n s : Nat) (h : a + n ≤ s) : x % 2 ^ s / 2 ^ a % 2 ^ n = x / 2 ^ a % 2 ^ n := by
  apply Nat.eq_of_testBit_eq
  intro i
  rw [Nat.testBit_mod_two_pow, Nat.testBit_mod_two_pow, Nat.testBit_div_two_pow, Nat.testBit_div_two_pow, Nat.testBit_mod_two_pow]
  by_cases hi : i < n
  · have h2 : i + a < s := by omega
    simp [hi, h2]
  · simp [hi]
theorem dig_high (x s a n : Nat) : x / 2 ^ s / 2 ^ a % 2 ^ n = x / 2 ^ (s + a) % 2 ^ n := by
  rw [Nat.div_div_eq_div_mul, ← Nat.pow_add]
theorem fdiv_pow (x s : Nat) : ((x : Int)).fdiv (2 ^ s) = ((x / 2 ^ s : Nat) : Int) := by
  rw [Int.fdiv_eq_ediv_of_nonneg _ (Int.pow_nonneg (by decide))]
  rw [Int.natCast_ediv, Int.natCast_pow]; rfl
theorem and_high (x s : Nat) : x &&& (x / 2 ^ s * 2 ^ s) = x / 2 ^ s * 2 ^ s := by
  apply Nat.eq_of_testBit_eq
  intro i
  rw [Nat.testBit_and, Nat.mul_comm, Nat.testBit_two_pow_mul, Nat.testBit_div_two_pow]
  by_cases hi : i ≥ s
  · have h3 : i - s + s = i := by omega
    simp [hi, h3]
  · simp [hi]
theorem bitAnd_nat (x y : Nat) : Builtin.bitAnd (x : Int) (y : Int) = ((x &&& y : Nat) : Int) := by
  cases x <;> cases y <;> rfl
theorem xor_is (x s : Nat) : Builtin.bitXor (x : Int) (((x / 2 ^ s : Nat) : Int) * 2 ^ s) = ((x % 2 ^ s : Nat) : Int) := by
  have e : ((x / 2 ^ s : Nat) : Int) * 2 ^ s = ((x / 2 ^ s * 2 ^ s : Nat) : Int) := by rw [Int.natCast_mul, Int.natCast_pow]; rfl
  rw [e, bitXor_and, bitAnd_nat, and_high]
  have h := Nat.div_add_mod x (2 ^ s)
  rw [Nat.mul_comm] at h
  omega
theorem bits_nat (y b : Nat) (h : y < 2 ^ b) : Builtin.Int.intBits (y : Int) ≤ b := by
  unfold Builtin.Int.intBits
  split
  · exact Nat.zero_le _
  · rename_i hy
    have hy0 : y ≠ 0 := fun e => hy (by subst e; rfl)
    rw [Int.natAbs_natCast]
    have := (Nat.log2_lt hy0).mpr h
    omega
theorem pow_toNat_one (x : Int) : x.fdiv (2 ^ Int.toNat 1) = x / 2 := by
  rw [show Int.toNat 1 = 1 from rfl, Int.fdiv_eq_ediv_of_nonneg _ (by decide)]; rfl
/-- a maker's table: empty, or with the one code object that it has made -/
def Tab (P : Addr) (qual : Str) (a b : Int) (tab : Led) : Prop :=
  tab = [(P, tabObj #[])] ∨ ∃ c' oc, tab = [(P, tabObj #[rawInt a, rawInt b, .ref c']), (c', oc)] ∧ FnCode oc qual ∧ @Ne Nat c' P
def DigsOf (k x : Nat) (ns : List Int) : Prop := x < 2 ^ (k * ns.length) ∧ ∀ i, ns.getD i 0 = ((x / 2 ^ (k * i) % 2 ^ k : Nat) : Int)
theorem lt_bits (x : Nat) : x < 2 ^ Builtin.Int.intBits (x : Int) := by
  unfold Builtin.Int.intBits
  split
  · rename_i h; have : x = 0 := by simpa using h
    subst this; decide
  · rw [Int.natAbs_natCast]; exact Nat.lt_log2_self
theorem news_pick {h₀ h : Heap} {L : Addr} {new led rest : Led} (N : News h₀ L h (led ++ rest)) (sub : ∀ p ∈ new, p ∈ led) : News h₀ L h (new ++ rest) := fun p hp => N p ((List.mem_append.mp hp).elim (fun e => List.mem_append_left _ (sub p e)) fun e => List.mem_append_right _ e)
theorem apart_pick {new led rest : Led} (A : Apart led rest) (sub : ∀ p ∈ new, p ∈ led) : Apart new rest := fun p hp => A p (sub p hp)
theorem ints_rep (k : Int) (t : Tok) : ∀ n, IntsAre (List.replicate n (.int k t)) (List.replicate n k)
  | 0 => .nil
  | n + 1 => by rw [List.replicate_succ, List.replicate_succ]; exact .cons _ _ (ints_rep k t n)
theorem digs_fin {k x len : Nat} {ns1 : List Int} (hx : x < 2 ^ (k * len)) (hl : ns1.length = len) (hg : ∀ i, ns1.getD i 0 = if 0 ≤ i ∧ i < len then ((x / 2 ^ (k * (i - 0)) % 2 ^ k : Nat) : Int) else (List.replicate len (0 : Int)).getD i 0) : DigsOf k x ns1 := by
  refine ⟨by rw [hl]; exact hx, fun i => ?_⟩
  rw [hg i]
  by_cases hi : i < len
  · rw [if_pos ⟨Nat.zero_le _, hi⟩]; rfl
  · rw [if_neg (by omega), List.getD_eq_getElem?_getD, List.getElem?_eq_none (by rw [List.length_replicate]; omega), Nat.div_eq_of_lt]
    · simp
    · exact Nat.lt_of_lt_of_le hx (Nat.pow_le_pow_right (by decide) (Nat.mul_le_mul_left _ (by omega)))
theorem digs_zero (k : Nat) : DigsOf k 0 [] := ⟨two_pow_pos _, fun i => by simp⟩
theorem atAll_keep {g h : Heap} {L : Addr} {m : Str → Option Value} {ro : Led} (F : Fr g L h m) (R : AtAll g ro) : AtAll h ro := fun q hq => F.keep _ _ (R q hq)
/-! the number that figures at k bits stand for -/
def dv (k : Nat) : List Int → Int
  | [] => 0
  | d :: r => d + 2 ^ k * dv k r
theorem dv_append (k : Nat) : ∀ a b : List Int, dv k (a ++ b) = dv k a + 2 ^ (k * a.length) * dv k b
  | [], b => by simp [dv]
  | d :: r, b => by
    rw [List.cons_append, dv, dv, dv_append k r b, List.length_cons, Nat.mul_succ, Int.pow_add, Int.mul_add, ← Int.mul_assoc, Int.mul_comm (2 ^ k) (2 ^ (k * r.length)), Int.add_assoc]
theorem dv_range (k : Nat) : ∀ a : List Int, (∀ d ∈ a, 0 ≤ d ∧ d < 2 ^ k) → 0 ≤ dv k a ∧ dv k a < 2 ^ (k * a.length)
  | [], _ => by simp [dv]
  | d :: r, h => by
    have h1 := h d (List.mem_cons_self ..)
    have h2 := dv_range k r fun x hx => h x (List.mem_cons_of_mem _ hx)
    have hp : (0 : Int) < 2 ^ k := Int.pow_pos (by decide)
    rw [dv, List.length_cons, Nat.mul_succ, Int.pow_add]
    refine ⟨Int.add_nonneg h1.1 (Int.mul_nonneg (Int.le_of_lt hp) h2.1), ?_⟩
    have h3 : 2 ^ k * (dv k r + 1) ≤ 2 ^ k * 2 ^ (k * r.length) := Int.mul_le_mul_of_nonneg_left (by omega) (Int.le_of_lt hp)
    rw [Int.mul_add, Int.mul_one] at h3
    rw [Int.mul_comm (2 ^ (k * r.length))]; omega
theorem take_drop_split {α : Type} (ns : List α) {L M R : Nat} (h1 : L ≤ M) (h2 : M ≤ R) : (ns.take R).drop L = (ns.take M).drop L ++ (ns.take R).drop M := by
  rw [List.drop_take, List.drop_take, List.drop_take]
  rw [show R - L = (M - L) + (R - M) by rw [Nat.add_comm]; exact (Nat.sub_add_sub_cancel h2 h1).symm, List.take_add, List.drop_drop, Nat.add_sub_cancel' h1]
theorem take_drop_one (ns : List Int) {L : Nat} (h : L < ns.length) : (ns.take (L + 1)).drop L = [ns.getD L 0] := by
  rw [List.drop_take, show L + 1 - L = 1 by omega, List.drop_eq_getElem_cons h, List.take_succ_cons, List.take_zero, List.getD_eq_getElem?_getD, List.getElem?_eq_getElem h]
  rfl
theorem ro_lt {g h : Heap} {L : Addr} {m : Str → Option Value} {ro : Led} (F : Fr g L h m) (R : AtAll g ro) {p : Addr × Obj} (hp : p ∈ ro) : @LT.lt Nat _ p.1 L := Nat.lt_of_lt_of_le (Heap.lt_size (R p hp)) F.above
/-- what is left of a row, said more weakly -/
theorem unrE_mono {h₀ : Heap} {L I : Addr} {s₁ s₂ : Shared} {it : Obj} {P P' : (Str → Option Value) → Led → Prop} (hp : ∀ m n, P m n → P' m n) (u : UnrEnd h₀ L s₁ I it P s₂) : UnrEnd h₀ L s₁ I it P' s₂ :=
  u.elim fun h u => u.elim fun t u => u.elim fun m u => u.elim fun n u => ⟨h, t, m, n, u.1, u.2.1, u.2.2.1, u.2.2.2.1, hp m n u.2.2.2.2⟩
theorem unr_mono {h₀ : Heap} {L I : Addr} {s₁ s₂ : Shared} {it : Obj} {P P' : (Str → Option Value) → Led → Prop} {Q : Flow → Shared → Prop} (hp : ∀ m n, P m n → P' m n) (f : Flow) (u : UnrPost h₀ L s₁ I it P Q f s₂) : UnrPost h₀ L s₁ I it P' Q f s₂ := by
  cases f
  · exact unrE_mono hp u
  · exact u
  · exact unrE_mono hp u
  · exact u
section
variable {prog : Program} {w : World} {A : Around} {E : Value → Shared → Prop} {s : Shared} {env : Env} {h₀ : Heap} {x : Str} {body : List Stmt} {Q : Flow → Shared → Prop} {I : Addr} {lp : Addr × Obj}
theorem revRest_ind (J : List Value → (Str → Option Value) → Led → Prop)
    (step : ∀ v r m n, J (v :: r) m n → ∀ (it : Obj) h tk, it.cls = .type "list_reverseiterator" → Fr h₀ env.locals h (fun y => if y = x then some v else m y) → News h₀ env.locals h ((I, it) :: n) →
      wpAny (model prog w) A (execs body env) (UnrPost h₀ env.locals { s with heap := h, toks := tk } I it (fun m' n' => lp ∈ n' ∧ J r m' n') Q) E { s with heap := h, toks := tk })
    (fin : ∀ m n, J [] m n → ∀ h tk, Fr h₀ env.locals h m → News h₀ env.locals h n → Q .next { s with heap := h, toks := tk }) :
    ∀ vs m n, J vs m n → RevRest prog w A E h₀ env x body Q s I lp vs m n := by
  intro vs
  induction vs with
  | nil => exact fin
  | cons v r ih => exact fun m n h it hh tk hc F N => wpAny_mono (step v r m n h it hh tk hc F N) (fun f _ u => unr_mono (fun m' n' q => ⟨q.1, ih m' n' q.2⟩) f u) fun _ _ e => e
end
theorem apart_symm {a b : Led} (h : Apart a b) : Apart b a := fun p hp q hq e => h q hq p hp e.symm
theorem apart_cons {q : Addr × Obj} {a b : Led} (h1 : ∀ p ∈ b, q.1 ≠ p.1) (h2 : Apart a b) : Apart (q :: a) b := fun p hp => by
  rcases List.mem_cons.mp hp with rfl | hp
  · exact h1
  · exact h2 p hp
theorem apart_app {a b c : Led} (h1 : Apart a c) (h2 : Apart b c) : Apart (a ++ b) c := fun p hp => (List.mem_append.mp hp).elim (h1 p) (h2 p)
theorem apart_tl {q : Addr × Obj} {b c : Led} (h : Apart (q :: b) c) : Apart b c := fun p hp => h p (List.mem_cons_of_mem _ hp)
theorem offI_lt {I : Addr} {it : Obj} : ∀ {l : Led}, (∀ p ∈ l, @LT.lt Nat _ p.1 I) → OffI I it l
  | [], _ => trivial
  | p :: r, h => ⟨.inl (Nat.ne_of_lt (h p (List.mem_cons_self ..))), offI_lt fun q hq => h q (List.mem_cons_of_mem _ hq)⟩
/-- the state of the long division after the figures from place i on -/
def DivInv (x i : Nat) (rr : Int) (qs : List Int) : Prop :=
  rr = ((x / 2 ^ (19 * i) % 317811 : Nat) : Int) ∧ dv 19 qs.reverse = ((x / 2 ^ (19 * i) / 317811 : Nat) : Int) ∧ ∀ d ∈ qs, 0 ≤ d ∧ d < 2 ^ 19
theorem div_rr {x i : Nat} {rr : Int} {qs : List Int} (h : DivInv x i rr qs) : 0 ≤ rr ∧ rr < 317811 := by
  have h1 := h.1
  have := Nat.mod_lt (x / 2 ^ (19 * i)) (show 317811 > 0 by decide)
  omega
theorem div_step {x i : Nat} {rr : Int} {qs ns : List Int} (hd : DigsOf 19 x ns) (h : DivInv x (i + 1) rr qs) :
    0 ≤ rr * 2 ^ 19 + ns.getD i 0 ∧ rr * 2 ^ 19 + ns.getD i 0 < 2 ^ 60 ∧ DivInv x i ((rr * 2 ^ 19 + ns.getD i 0).fmod 317811) (qs ++ [(rr * 2 ^ 19 + ns.getD i 0).fdiv 317811]) := by
  obtain ⟨h1, h2, h3⟩ := h
  unfold DivInv
  have hx1 : x / 2 ^ (19 * (i + 1)) = x / 2 ^ (19 * i) / 2 ^ 19 := by rw [Nat.mul_succ, Nat.pow_add, Nat.div_div_eq_div_mul]
  rw [hd.2 i]
  rw [hx1] at h1 h2
  generalize x / 2 ^ (19 * i) = X at *
  have e1 := Nat.div_add_mod X (2 ^ 19)
  have e2 := Nat.div_add_mod (X / 2 ^ 19) 317811
  have l1 := Nat.mod_lt X (show 2 ^ 19 > 0 by decide)
  have l2 := Nat.mod_lt (X / 2 ^ 19) (show 317811 > 0 by decide)
  subst h1
  generalize hq : X / 2 ^ 19 % 317811 = r at *
  generalize hQ : X / 2 ^ 19 / 317811 = q at *
  generalize hm : X % 2 ^ 19 = a at *
  have ez : ((r : Nat) : Int) * 2 ^ 19 + ((a : Nat) : Int) = ((r * 524288 + a : Nat) : Int) := by
    rw [Int.natCast_add, Int.natCast_mul]; rfl
  have hX : X = 317811 * (524288 * q) + (r * 524288 + a) := by
    rw [show (2 : Nat) ^ 19 = 524288 from rfl] at e1; omega
  rw [ez]
  rw [show (2 : Nat) ^ 19 = 524288 from rfl] at l1
  clear hq hQ hm e1 e2 hx1
  have f1 : ((r * 524288 + a : Nat) : Int).fmod 317811 = (((r * 524288 + a) % 317811 : Nat) : Int) := by rw [Int.fmod_eq_emod_of_nonneg _ (by decide)]; omega
  have f2 : ((r * 524288 + a : Nat) : Int).fdiv 317811 = (((r * 524288 + a) / 317811 : Nat) : Int) := by rw [Int.fdiv_eq_ediv_of_nonneg _ (by decide)]; omega
  have l3 : r * 524288 + a < 1152921504606846976 := by omega
  have l4 : (r * 524288 + a) / 317811 < 524288 := Nat.div_lt_of_lt_mul (by omega)
  refine ⟨Int.natCast_nonneg _, Int.ofNat_lt.mpr l3, ?_, ?_, ?_⟩
  · rw [f1, hX]
    rw [Nat.mul_add_mod]
  · rw [f2, List.reverse_append, List.reverse_singleton, List.singleton_append, dv, h2, hX, Nat.mul_add_div (by decide)]
    rw [Int.natCast_add, Int.natCast_mul, Int.add_comm]; rfl
  · intro d hdm
    rcases List.mem_append.mp hdm with hdm | hdm
    · exact h3 d hdm
    · rw [List.mem_singleton.mp hdm, f2]; exact ⟨Int.natCast_nonneg _, Int.ofNat_lt.mpr l4⟩
theorem div_start {x : Nat} {ns : List Int} (hd : DigsOf 19 x ns) : DivInv x ns.length 0 [] := by
  have h : x / 2 ^ (19 * ns.length) = 0 := Nat.div_eq_of_lt hd.1
  refine ⟨?_, ?_, fun d h => nomatch h⟩ <;> rw [h] <;> rfl
theorem rev_take (ns : List Int) (i : Nat) (h : i < ns.length) : (ns.take (i + 1)).reverse = ns.getD i 0 :: (ns.take i).reverse := by
  rw [List.take_add_one, List.reverse_append, List.getD_eq_getElem?_getD, List.getElem?_eq_getElem h]; rfl
section
variable {prog : Program} {w : World} {A : Around} {E : Value → Shared → Prop} {s : Shared} {h₀ : Heap} {L : Addr} {m : Str → Option Value} {news news' : Led}
theorem m_reverse {Q : Value → Shared → Prop} {D : Addr} {vs : List Value} {n : Nat} (F : Fr h₀ L s.heap m) (N : News h₀ L s.heap news) (U : Upd D (listOf vs.toArray n) (listOf vs.reverse.toArray n) news news') (hz : vs.length ≤ 10000)
    (h : ∀ h', Fr h₀ L h' m → News h₀ L h' news' → Q .none { s with heap := h' }) : wpAny (model prog w) A (call (.builtin "list.reverse") [.ref D]) Q E s :=
  kl_reverse F N rfl U (by rw [sizeLine_eq]; show vs.length ≤ _; omega) h
end
theorem ints_reverse : ∀ {vs : List Value} {ns : List Int}, IntsAre vs ns → IntsAre vs.reverse ns.reverse
  | _, _, .nil => .nil
  | _, _, .cons n t g => by rw [List.reverse_cons, List.reverse_cons]; exact ints_snoc (ints_reverse g)
theorem div_end {x : Nat} {rr : Int} {qs : List Int} (h : DivInv x 0 rr qs) : rr = ((x % 317811 : Nat) : Int) ∧ dv 19 qs.reverse = ((x / 317811 : Nat) : Int) ∧ ∀ d ∈ qs.reverse, 0 ≤ d ∧ d < 2 ^ 19 := by
  obtain ⟨h1, h2, h3⟩ := h
  rw [Nat.mul_zero, Nat.pow_zero, Nat.div_one] at h1 h2
  exact ⟨h1, h2, fun d hd => h3 d (List.mem_reverse.mp hd)⟩
theorem allLt_ne {D : Addr} {b : Led} (h : AllLt D b) : ∀ p ∈ b, D ≠ p.1 := by
  induction b with
  | nil => intro p hp; cases hp
  | cons q r ih =>
    intro p hp
    rcases List.mem_cons.mp hp with rfl | hp
    · exact fun e => Nat.lt_irrefl _ (e ▸ h.1)
    · exact ih h.2 p hp
theorem allLt_mem {D : Addr} {b : Led} (h : AllLt D b) : ∀ p ∈ b, @LT.lt Nat _ p.1 D := by
  induction b with
  | nil => intro p hp; cases hp
  | cons q r ih =>
    intro p hp
    rcases List.mem_cons.mp hp with rfl | hp
    · exact h.1
    · exact ih h.2 p hp
/-- how many of the steps are not greater than n -/
def cntLe (n : Int) : Nat := (stepsL.filter (· ≤ n)).length
/-- the greatest step is taken off again and again -/
def greedy : Nat → Int → List Int → List Int
  | 0, _, acc => acc
  | k + 1, n, acc => if 0 < n then greedy k (n - stepsL.getD (((cntLe n : Int) - 1).toNat) 0) (((cntLe n : Int) - 1) :: acc) else acc
theorem cnt_of {ns : List Int} {x : Int} {lo : Nat} (hlen : lo ≤ ns.length) (h1 : ∀ i, i < lo → ns.getD i 0 ≤ x) (h2 : ∀ i, lo ≤ i → i < ns.length → x < ns.getD i 0) : (ns.filter (· ≤ x)).length = lo := by
  rw [← List.take_append_drop lo ns, List.filter_append, List.length_append]
  have e1 : (ns.take lo).filter (· ≤ x) = ns.take lo := by
    rw [List.filter_eq_self]
    intro a ha
    obtain ⟨i, hi, rfl⟩ := List.getElem_of_mem ha
    have hi' : i < lo := by rw [List.length_take] at hi; omega
    have := h1 i hi'
    rw [List.getD_eq_getElem?_getD, List.getElem?_eq_getElem (by omega)] at this
    rw [List.getElem_take]
    exact decide_eq_true this
  have e2 : (ns.drop lo).filter (· ≤ x) = [] := by
    rw [List.filter_eq_nil_iff]
    intro a ha
    obtain ⟨i, hi, rfl⟩ := List.getElem_of_mem ha
    have hi' : lo + i < ns.length := by rw [List.length_drop] at hi; omega
    have := h2 (lo + i) (by omega) hi'
    rw [List.getD_eq_getElem?_getD, List.getElem?_eq_getElem hi'] at this
    rw [List.getElem_drop, decide_eq_true_iff]
    exact Int.not_le.mpr this
  rw [e1, e2, List.length_take]
  simp; omega
theorem cnt_pos {x : Int} (h : 0 < x) : 1 ≤ cntLe x := by
  unfold cntLe stepsL
  rw [List.filter_cons, if_pos (decide_eq_true (show (1 : Int) ≤ x by omega)), List.length_cons]
  omega
theorem steps_ge : ∀ i : Nat, i < 27 → 1 ≤ stepsL.getD i 0 := by decide +kernel
section
variable {prog : Program} {w : World} {A : Around} {E : Value → Shared → Prop} {s : Shared} {h₀ : Heap} {L : Addr} {m : Str → Option Value} {news news' : Led}
theorem m_insert0 {Q : Value → Shared → Prop} {D : Addr} {vs : List Value} {n : Nat} {v : Value} {t : Tok} (F : Fr h₀ L s.heap m) (N : News h₀ L s.heap news) (U : Upd D (listOf vs.toArray n) (listOf (List.toArray (v :: vs)) (n + 1)) news news') (hz : vs.length ≤ 10000)
    (h : ∀ h', Fr h₀ L h' m → News h₀ L h' news' → Q .none { s with heap := h' }) : wpAny (model prog w) A (call (.builtin "list.insert") [.ref D, .int 0 t, v]) Q E s :=
  kl_insert F N rfl rfl U (by rw [sizeLine_eq]; show vs.length ≤ _; omega) h
end
theorem steps_mono : ∀ i j, i ≤ j → j < 27 → stepsL.getD i 0 ≤ stepsL.getD j 0 := by
  have h : ∀ j : Fin 27, ∀ i : Fin 27, i.1 ≤ j.1 → stepsL.getD i.1 0 ≤ stepsL.getD j.1 0 := by decide +kernel
  exact fun i j hij hj => h ⟨j, hj⟩ ⟨i, by omega⟩ hij
theorem cnt_le (x : Int) : cntLe x ≤ 27 := List.length_filter_le _ _
theorem greedy_fuel : ∀ (k j : Nat) (x : Int) (acc : List Int), x.toNat ≤ k → x.toNat ≤ j → greedy k x acc = greedy j x acc
  | 0, 0, _, _, _, _ => rfl
  | 0, j + 1, x, acc, h, _ => by rw [greedy, greedy, if_neg (by omega)]
  | k + 1, 0, x, acc, _, h => by rw [greedy, greedy, if_neg (by omega)]
  | k + 1, j + 1, x, acc, h1, h2 => by
    rw [greedy, greedy]
    split
    · rename_i hx
      have h3 := steps_ge (((cntLe x : Int) - 1).toNat) (by have := cnt_le x; omega)
      exact greedy_fuel k j _ _ (by omega) (by omega)
    · rfl
theorem greedy_step {x : Int} {acc : List Int} (hx : 0 < x) : greedy x.toNat x acc = greedy (x - stepsL.getD (((cntLe x : Int) - 1).toNat) 0).toNat (x - stepsL.getD (((cntLe x : Int) - 1).toNat) 0) (((cntLe x : Int) - 1) :: acc) := by
  have h3 := steps_ge (((cntLe x : Int) - 1).toNat) (by have := cnt_le x; omega)
  rw [greedy_fuel x.toNat ((x - 1).toNat + 1) x acc (Nat.le_refl _) (by omega), greedy, if_pos hx]
  exact greedy_fuel _ _ _ _ (Int.toNat_le_toNat (by omega)) (Nat.le_refl _)
theorem greedy_end {x : Int} {acc : List Int} (hx : ¬ 0 < x) : greedy x.toNat x acc = acc := by
  rw [show x.toNat = 0 by omega]; rfl
def sg (c : Nat) : Str := ⟨#[c]⟩
def strL (l : List Nat) : Str := ⟨l.toArray⟩
theorem rev_str (cs : List Nat) (u : Tok) : Txt.sliceBy (strL cs) none none (-1, u) = strL cs.reverse := by
  have h := step_rev_list (strL cs) u
  have e : ((List.range (strL cs).length).map fun k => (strL cs).cps.getD ((strL cs).length - 1 - k) 0) = cs.reverse := by
    have hl : (strL cs).length = cs.length := by show cs.toArray.size = _; simp
    rw [hl]
    apply List.ext_getElem
    · simp
    · intro i h1 h2
      have hi : i < cs.length := by simpa using h2
      rw [List.getElem_map, List.getElem_range, List.getElem_reverse]
      show (cs.toArray).getD _ _ = _
      rw [Array.getD_eq_getD_getElem?]
      simp
      rw [List.getElem?_eq_getElem (by omega)]; rfl
  rw [e] at h
  show _ = (⟨cs.reverse.toArray⟩ : Str)
  rw [← h]
/-- the figures of a word, the last first -/
def figL (o : Nat) (l : List Nat) : List Int := l.map fun c => if c = o then 1 else 0
/-- the first i binary figures of a word -/
def digL (z o n : Nat) : Nat → List Nat
  | 0 => []
  | i + 1 => digL z o n i ++ [if n / 2 ^ (5 - i) % 2 = 1 then o else z]
def wordL (z o n : Nat) : List Nat := z :: digL z o n 6
theorem glued_fold (acc : Array Nat) : ∀ (ps : List Str), ps.foldl (fun acc p => acc ++ (Str.ofString "").cps ++ p.cps) acc = acc ++ (ps.flatMap fun p => p.cps.toList).toArray
  | [] => by simp
  | p :: r => by
    rw [List.foldl_cons, glued_fold _ r]
    have e : (Str.ofString "").cps = #[] := by decide +kernel
    rw [e, Array.append_empty, List.flatMap_cons]
    apply Array.ext'
    simp
theorem join_flat (ps : List Str) : Txt.join (Str.ofString "") ps = strL (ps.flatMap fun p => p.cps.toList) := by
  unfold Txt.join Builtin.Str.glued strL
  rw [glued_fold]
  cases ps with
  | nil => rfl
  | cons p r =>
    rw [List.flatMap_cons]
    congr 1
    apply Array.ext'
    simp
theorem flat_sg : ∀ cs : List Nat, ((cs.map sg).flatMap fun p => p.cps.toList) = cs
  | [] => rfl
  | c :: r => by rw [List.map_cons, List.flatMap_cons, flat_sg r]; rfl
section
variable {prog : Program} {w : World} {A : Around} {E : Value → Shared → Prop} {s : Shared} {h₀ : Heap} {L : Addr} {m : Str → Option Value} {news news' : Led}
theorem m_joinE {Q : Value → Shared → Prop} {D : Addr} {vs : List Value} {k : Nat} {ps : List Str} {t : Tok} (N : News h₀ L s.heap news) (hm : (D, listOf vs.toArray k) ∈ news) (hi : StrsAre vs ps) (hl : ps.length ≤ 10000 ∧ ∀ p ∈ ps, p.length ≤ 10)
    (h : ∀ t' k, Q (.str (strL (ps.flatMap fun p => p.cps.toList)) t') { s with toks := k }) : wpAny (model prog w) A (call (.builtin "str.join") [.str (Str.ofString "") t, .ref D]) Q E s := by
  refine join_listC (News.isList N hm) hi (by decide +kernel) ?_ fun t' k => ?_
  · have : ∀ l : List Str, (∀ p ∈ l, p.length ≤ 10) → (l.map (·.length)).sum ≤ 10 * l.length := by
      intro l
      induction l with
      | nil => intro _; simp
      | cons a r ih =>
        intro hh
        have h1 := hh a (List.mem_cons_self ..)
        have h2 := ih fun p hp => hh p (List.mem_cons_of_mem _ hp)
        rw [List.map_cons, List.sum_cons, List.length_cons]; omega
    have := this ps hl.2
    omega
  · rw [join_flat]; exact h t' k
end
theorem strs_snoc : ∀ {vs : List Value} {ps : List Str} {p : Str} {t : Tok}, StrsAre vs ps → StrsAre (vs ++ [.str p t]) (ps ++ [p])
  | _, _, _, _, .nil => .cons _ _ .nil
  | _, _, _, _, .cons y u g => .cons y u (strs_snoc g)
theorem dig_len (z o n : Nat) : ∀ i, (digL z o n i).length = i
  | 0 => rfl
  | i + 1 => by rw [digL, List.length_append, dig_len z o n i]; rfl
theorem bit_cond {n i : Nat} {ni : Int} (hni : ni = n) (hi : i < 6) : ((ni.fdiv (2 ^ (5 + (i : Int) * -1).toNat)).fmod 2 == 1) = decide (n / 2 ^ (5 - i) % 2 = 1) := by
  rw [show (5 + (i : Int) * -1).toNat = 5 - i by omega, hni, fdiv_pow, Int.fmod_eq_emod_of_nonneg _ (by decide)]
  rw [Bool.eq_iff_iff, beq_iff_eq, decide_eq_true_iff]
  omega
theorem sg_append (z : Nat) (l : List Nat) : sg z ++ strL l = strL (z :: l) := by
  show (⟨#[z] ++ l.toArray⟩ : Str) = ⟨(z :: l).toArray⟩
  congr 1
  apply Array.ext'
  simp
section
variable {prog : Program} {w : World} {A : Around} {E : Value → Shared → Prop} {s : Shared}
theorem m_addS {x y : Str} {t u : Tok} {Q : Value → Shared → Prop} (hsz : x.length + y.length ≤ 9000) (h : ∀ t' tk, Q (.str (x ++ y) t') { s with toks := tk }) : wpAny (model prog w) A (binaryOp .Add (.str x t) (.str y u)) Q E s :=
  PyProof.Rows.add_str h (by rw [sizeLine_eq]; omega)
theorem m_iaddS {x y : Str} {t u : Tok} {Q : Value → Shared → Prop} (hsz : x.length + y.length ≤ 9000) (h : ∀ t' tk, Q (.str (x ++ y) t') { s with toks := tk }) : wpAny (model prog w) A (inplaceOp .Add (.str x t) (.str y u)) Q E s :=
  PyProof.Rows.iadd_str h (by rw [sizeLine_eq]; omega)
end
theorem strL_length (l : List Nat) : (strL l).length = l.length := by show l.toArray.size = _; simp
theorem strL_append (a b : List Nat) : strL a ++ strL b = strL (a ++ b) := by
  show (⟨a.toArray ++ b.toArray⟩ : Str) = ⟨(a ++ b).toArray⟩
  congr 1
  apply Array.ext'
  simp
theorem sg_length (c : Nat) : (sg c).length = 1 := rfl
section
variable {prog : Program} {w : World} {A : Around} {E : Value → Shared → Prop} {s : Shared} {env : Env} {h₀ : Heap} {x : Str} {body : List Stmt} {Q : Flow → Shared → Prop} {I : Addr} {lp : Addr × Obj}
theorem listRest_ind (J : List Value → (Str → Option Value) → Led → Prop)
    (step : ∀ v r m n, J (v :: r) m n → ∀ (it : Obj) h tk, it.cls = .type "list_iterator" → Fr h₀ env.locals h (fun y => if y = x then some v else m y) → News h₀ env.locals h ((I, it) :: n) →
      wpAny (model prog w) A (execs body env) (UnrPost h₀ env.locals { s with heap := h, toks := tk } I it (fun m' n' => lp ∈ n' ∧ J r m' n') Q) E { s with heap := h, toks := tk })
    (fin : ∀ m n, J [] m n → ∀ h tk, Fr h₀ env.locals h m → News h₀ env.locals h n → Q .next { s with heap := h, toks := tk }) :
    ∀ vs m n, J vs m n → ListRest prog w A E h₀ env x body Q s I lp vs m n := by
  intro vs
  induction vs with
  | nil => exact fin
  | cons v r ih => exact fun m n h it hh tk hc F N => wpAny_mono (step v r m n h it hh tk hc F N) (fun f _ u => unr_mono (fun m' n' q => ⟨q.1, ih m' n' q.2⟩) f u) fun _ _ e => e
end
/-- how the text holds a word -/
def encWord (z o n : Nat) : List Nat :=
  if n / 64 % 2 = 1 then (wordL z o n).flatMap (fun c => [92, c]) ++ [10]
  else 34 :: (wordL z o n).flatMap (fun c => if c = 34 ∨ c = 92 then [92, c] else [c]) ++ [34, 10]
theorem flat_enc (f : Nat → List Nat) : ∀ l : List Nat, ((l.map fun c => strL (f c)).flatMap fun p => p.cps.toList) = l.flatMap f
  | [] => rfl
  | c :: r => by
    rw [List.map_cons, List.flatMap_cons, flat_enc f r, List.flatMap_cons]
    congr 1
theorem bs_append (c : Nat) : Str.ofString "\\" ++ (⟨#[c]⟩ : Str) = strL [92, c] := by
  have h : Str.ofString "\\" = strL [92] := by decide +kernel
  rw [h]
  exact strL_append [92] [c]
theorem bs_len (c : Nat) : (Str.ofString "\\").length + (⟨#[c]⟩ : Str).length ≤ 9000 := by
  show (Str.ofString "\\").length + 1 ≤ 9000
  decide +kernel
theorem take_snoc {l : List Nat} {i c : Nat} (h : l[i]? = some c) : l.take (i + 1) = l.take i ++ [c] := by
  rw [List.take_add_one, h]; rfl
theorem word_len (z o n : Nat) : (wordL z o n).length = 7 := by rw [wordL, List.length_cons, dig_len]
theorem flat_len (f : Nat → List Nat) (hf : ∀ c, (f c).length ≤ 2) : ∀ l : List Nat, (l.flatMap f).length ≤ 2 * l.length
  | [] => by simp
  | c :: r => by
    have h1 := hf c
    have h2 := flat_len f hf r
    rw [List.flatMap_cons, List.length_append, List.length_cons]; omega
theorem odd_cond (c : Nat) : ((((c : Nat) : Int).fdiv 64).fmod 2 == 1) = decide (c / 64 % 2 = 1) := by
  rw [Int.fdiv_eq_ediv_of_nonneg _ (by decide), Int.fmod_eq_emod_of_nonneg _ (by decide), Bool.eq_iff_iff, beq_iff_eq, decide_eq_true_iff]
  omega
theorem nl_str : Str.ofString "\n" = strL [10] := by decide +kernel
theorem q_str : Str.ofString "\"" = strL [34] := by decide +kernel
theorem qn_str : Str.ofString "\"\n" = strL [34, 10] := by decide +kernel
def encQ (c : Nat) : List Nat := if c = 34 ∨ c = 92 then [92, c] else [c]
theorem encQ_len (c : Nat) : (encQ c).length ≤ 2 := by unfold encQ; split <;> simp
theorem enc_odd {z o c : Nat} (dz : List Nat) (h : c / 64 % 2 = 1) : strL (dz.flatMap (encWord z o)) ++ (strL ((wordL z o c).flatMap fun c => [92, c]) ++ Str.ofString "\n") = strL ((dz ++ [c]).flatMap (encWord z o)) := by
  rw [nl_str, strL_append, strL_append, List.flatMap_append, List.flatMap_singleton, encWord, if_pos h]
theorem enc_even {z o c : Nat} (dz : List Nat) (h : ¬ c / 64 % 2 = 1) : strL (dz.flatMap (encWord z o)) ++ (Str.ofString "\"" ++ strL ((wordL z o c).flatMap encQ) ++ Str.ofString "\"\n") = strL ((dz ++ [c]).flatMap (encWord z o)) := by
  rw [q_str, qn_str, strL_append, strL_append, strL_append, List.flatMap_append, List.flatMap_singleton, encWord, if_neg h]
  rfl
theorem enc_len (z o n : Nat) : (encWord z o n).length ≤ 20 := by
  unfold encWord
  split
  · have := flat_len (fun c => [92, c]) (fun _ => Nat.le_refl _) (wordL z o n)
    rw [word_len] at this
    rw [List.length_append, List.length_singleton]; omega
  · have := flat_len (fun c => if c = 34 ∨ c = 92 then [92, c] else [c]) encQ_len (wordL z o n)
    rw [word_len] at this
    simp only [List.length_append, List.length_cons, List.length_nil]; omega
theorem encs_len (z o : Nat) : ∀ dz : List Nat, (dz.flatMap (encWord z o)).length ≤ 20 * dz.length
  | [] => by simp
  | c :: r => by
    have h1 := enc_len z o c
    have h2 := encs_len z o r
    rw [List.flatMap_cons, List.length_append, List.length_cons]; omega
theorem q_in (c : Nat) : (!(Builtin.Str.occurrences (Str.ofString "\"\\") ⟨#[c]⟩ 0 2 1).isEmpty) = true ↔ c = 34 ∨ c = 92 := by
  have h := PySem.StrLaws.found_one (Str.ofString "\"\\") c
  have e : (Str.ofString "\"\\").length = 2 := by decide +kernel
  have e2 : (Str.ofString "\"\\").cps.toList = [34, 92] := by decide +kernel
  rw [e, e2] at h
  rw [h, decide_eq_true_iff]; simp
theorem mid_facts {L R len : Nat} {Li Ri : Int} (hLi : Li = L) (hRi : Ri = R) (hR : R = L + len + 1) (hc : ¬ Li + 1 = Ri) :
    ∃ M, (Li + Ri).fdiv (2 ^ Int.toNat 1) = ((M : Nat) : Int) ∧ L < M ∧ M < R ∧ M - L - 1 < len ∧ R - M - 1 < len ∧ M = L + (M - L - 1) + 1 ∧ R = M + (R - M - 1) + 1 := by
  (refine ex2 (show ∃ q p, len = q + p + 1 ∧ q ≤ p ∧ p ≤ q + 1 from ⟨(len - 1) / 2, len - 1 - (len - 1) / 2, by omega⟩) ?_; intro q p hP9; refine an3 hP9 ?_; clear hP9; intro h1 h2 h3)
  have hR2 : R = L + 1 + q + p + 1 := by rw [hR, h1]; omega
  have e1 : L + 1 + q - L - 1 = q := by rw [Nat.add_assoc, Nat.add_sub_cancel_left, Nat.add_sub_cancel_left]
  have e2 : R - (L + 1 + q) - 1 = p := by rw [hR2, Nat.add_assoc (L + 1 + q) p 1, Nat.add_sub_cancel_left]; rfl
  refine ⟨L + 1 + q, ?_, Nat.lt_of_lt_of_le (Nat.lt_succ_self L) (Nat.le_add_right _ _), ?_, ?_, ?_, ?_, ?_⟩
  · rw [pow_toNat_one, hLi, hRi, hR2]; clear hR2 e1 e2 hR hRi hLi hc; omega
  · rw [hR2]; exact Nat.lt_succ_of_le (Nat.le_add_right _ p)
  · rw [e1, h1]; exact Nat.lt_succ_of_le (Nat.le_add_right q p)
  · rw [e2, h1]; exact Nat.lt_succ_of_le (Nat.le_add_left p q)
  · rw [e1]; exact Nat.add_right_comm L 1 q
  · rw [e2]; exact hR2
theorem strs_cons {vs : List Value} {p : Str} {ps : List Str} (h : StrsAre vs (p :: ps)) : ∃ t vs', vs = .str p t :: vs' ∧ StrsAre vs' ps := by cases h; exact ⟨_, _, rfl, by assumption⟩
theorem strs_nil {vs : List Value} (h : StrsAre vs []) : vs = [] := by cases h; rfl
theorem ints_cons {vs : List Value} {p : Int} {ps : List Int} (h : IntsAre vs (p :: ps)) : ∃ t vs', vs = .int p t :: vs' ∧ IntsAre vs' ps := by cases h; exact ⟨_, _, rfl, by assumption⟩
theorem ints_nil {vs : List Value} (h : IntsAre vs []) : vs = [] := by cases h; rfl
theorem ints_hd {v : Value} {vs : List Value} {p : Int} {ps : List Int} (h : IntsAre (v :: vs) (p :: ps)) : ∃ t, v = .int p t ∧ IntsAre vs ps := by
  (refine ex2 (ints_cons h) ?_; intro t vs' hP9; refine an2 hP9 ?_; clear hP9; intro e h2)
  cases e
  exact ⟨t, rfl, h2⟩
theorem ints_no {v : Value} {vs : List Value} (h : IntsAre (v :: vs) []) : False := nomatch ints_nil h
theorem room_d {dp a len lim : Nat} (h : dp + (len + 2) < lim) (hq : a < len) : dp + 1 + (a + 2) < lim := by omega
theorem room_u {un a len lim : Nat} (h : un + 16 * (len + 2) < lim) (hq : a < len) : un + 3 + 16 * (a + 2) < lim := by omega
end
section
theorem strs_of_at : ∀ (vs : List Value) (cs : List Nat), vs.length = cs.length → (∀ (j : Nat) (v : Value), vs[j]? = some v → ∃ c u, cs[j]? = some c ∧ v = .str ⟨#[c]⟩ u) → StrsAre vs (cs.map sg)
  | [], [], _, _ => .nil
  | [], _ :: _, h, _ => by simp at h
  | _ :: _, [], h, _ => by simp at h
  | v :: vs, c :: cs, h, H => by
    obtain ⟨c', u, h1, rfl⟩ := H 0 v rfl
    cases h1
    exact .cons _ _ (strs_of_at vs cs (by simpa using h) fun j w hj => H (j + 1) w (by simpa using hj))
theorem strs_append : ∀ {vs ws : List Value} {ps qs : List Str}, StrsAre vs ps → StrsAre ws qs → StrsAre (vs ++ ws) (ps ++ qs)
  | _, _, _, _, .nil, h => h
  | _, _, _, _, .cons y t h, g => .cons y t (strs_append h g)
theorem strs_reverse : ∀ {vs : List Value} {ps : List Str}, StrsAre vs ps → StrsAre vs.reverse ps.reverse
  | _, _, .nil => .nil
  | _, _, .cons y t h => by
    rw [List.reverse_cons, List.reverse_cons]
    exact strs_append (strs_reverse h) (.cons y t .nil)
theorem strs_length : ∀ {vs : List Value} {ps : List Str}, StrsAre vs ps → vs.length = ps.length
  | _, _, .nil => rfl
  | _, _, .cons _ _ h => by rw [List.length_cons, List.length_cons, strs_length h]
theorem strs_unsnoc {ps : List Str} {p : Str} : ∀ {vs : List Value}, StrsAre vs (ps ++ [p]) → ∃ vs' t, vs = vs' ++ [.str p t] ∧ StrsAre vs' ps := by
  induction ps with
  | nil =>
    intro vs h
    (refine ex2 (strs_cons h) ?_; intro t vs' hP9; refine an2 hP9 ?_; clear hP9; rintro rfl h2)
    rw [strs_nil h2]
    exact ⟨[], t, rfl, .nil⟩
  | cons q qs ih =>
    intro vs h
    (refine ex2 (strs_cons h) ?_; intro t vs' hP9; refine an2 hP9 ?_; clear hP9; rintro rfl h2)
    (refine ex2 (ih h2) ?_; intro vs2 u hP9; refine an2 hP9 ?_; clear hP9; rintro rfl h3)
    exact ⟨_ :: vs2, u, rfl, .cons q t h3⟩
section
variable {prog : Program} {w : World} {A : Around} {E : Value → Shared → Prop} {s : Shared} {h₀ : Heap} {L : Addr} {m : Str → Option Value} {news : Led}
theorem m_listStr {cs : List Nat} {x : Str} {t : Tok} {Q : Value → Shared → Prop} (hh : A.handled = none) (F : Fr h₀ L s.heap m) (N : News h₀ L s.heap news) (hx : x = strL cs) (hl : cs.length ≤ 9000)
    (h : ∀ D h' tk (ys : List Value) n, Fr h₀ L h' m → News h₀ L h' ((D, listOf ys.toArray n) :: news) → StrsAre ys (cs.map sg) → (∀ q ∈ news, q.1 < D) → Q (.ref D) { s with heap := h', toks := tk }) :
    wpAny (model prog w) A (call (.type "list") [.str x t]) Q E s := by
  subst hx
  refine PySem.call_list_str hh (strL cs) t (hn := by rw [sizeLine_eq]; show cs.toArray.size ≤ _; rw [List.size_toArray]; omega) fun h' tk acc' c' hk hS' hacc => ?_
  refine h _ h' tk acc'.toList c' (F.keeps hk) (news_pushed F N hk hS' rfl) (strs_of_at _ _ ?_ ?_) ?_
  · have := hacc.1
    show acc'.toList.length = _
    rw [Array.length_toList, this]
    show cs.toArray.size = _
    simp
  · intro j v hj
    obtain ⟨c, u, hc, rfl⟩ := hacc.2 j v (by simpa using hj)
    refine ⟨c, u, ?_, rfl⟩
    have e : (strL cs).cps[j]? = cs[j]? := by show cs.toArray[j]? = _; simp
    rw [← e]; exact hc
  · exact fun q hq => Heap.lt_size (N q hq).1
end
/-- the text `rs` holds the word `wd` next, and `r` behind it -/
inductive Reads : List Nat → List Nat → List Nat → Prop
  | done : Reads [] [] []
  | skip {rs wd r : List Nat} : Reads rs wd r → Reads (10 :: rs) wd r
  | bare (c0 : Nat) (ws r : List Nat) : Reads (92 :: c0 :: (ws.flatMap (fun c => [92, c]) ++ 10 :: r)) (c0 :: ws) r
  | quot (ws r : List Nat) : Reads (34 :: (ws.flatMap encQ ++ 34 :: r)) ws r
theorem reads_inv {ch : Nat} {rs wd r : List Nat} (h : Reads (ch :: rs) wd r) : (ch = 10 ∧ Reads rs wd r) ∨ (ch = 92 ∧ ∃ c0 ws, wd = c0 :: ws ∧ rs = c0 :: (ws.flatMap (fun c => [92, c]) ++ 10 :: r)) ∨ (ch = 34 ∧ rs = wd.flatMap encQ ++ 34 :: r) := by
  cases h with
  | skip h => exact .inl ⟨rfl, h⟩
  | bare c0 ws => exact .inr (.inl ⟨rfl, c0, ws, rfl, rfl⟩)
  | quot => exact .inr (.inr ⟨rfl, rfl⟩)
theorem reads_nil {wd r : List Nat} (h : Reads [] wd r) : wd = [] ∧ r = [] := by cases h; exact ⟨rfl, rfl⟩
theorem ws_in (c : Nat) : (!(Builtin.Str.occurrences (Str.ofString "\n\t\r ") (sg c) 0 4 1).isEmpty) = true ↔ c = 10 ∨ c = 9 ∨ c = 13 ∨ c = 32 := by
  have h := PySem.StrLaws.found_one (Str.ofString "\n\t\r ") c
  have e : (Str.ofString "\n\t\r ").length = 4 := by decide +kernel
  have e2 : (Str.ofString "\n\t\r ").cps.toList = [10, 9, 13, 32] := by decide +kernel
  rw [e, e2] at h
  show (!(Builtin.Str.occurrences (Str.ofString "\n\t\r ") ⟨#[c]⟩ 0 4 1).isEmpty) = true ↔ _
  rw [h, decide_eq_true_iff]; simp
theorem sg_eq (a b : Nat) : (sg a == sg b) = decide (a = b) := by
  by_cases h : a = b
  · subst h; simp
  · rw [decide_eq_false h, beq_eq_false_iff_ne]
    intro e; exact h (by simpa [sg] using e)
theorem sg_strL (c : Nat) : sg c = strL [c] := rfl
theorem nil_str : Str.ofString "" = strL [] := by decide +kernel
end
section
theorem owner_ci : Manifest.owners.lookup (String.ofList ['r', 'o', 't', 'a', 'r', 'e', 't', 'i', '_', 'e', 'l', 'b', 'a', 'l', 'l', 'a', 'c'].reverse) = some Manifest.sig_callable_iterator := by kernel_rfl
theorem slot_ci_next : Slot "callable_iterator" "__next__" "callable_iterator.__next__" :=
  .of (owner := "callable_iterator") (n := "__next__") (by rw [typeLookup_type, builtinLookup_eq_fast]; kernel_rfl) (by decide +kernel) (by decide +kernel) (by decide +kernel)
    (by first | exact .inl (by decide +kernel) | exact .inr (by decide +kernel)) (by rw [isSubtype_type]; kernel_rfl)
theorem entry_ci_next : entryFor table "callable_iterator.__next__" = some Builtin.«callable_iterator.__next__» := entryFor_of_tree (by kernel_rfl)
theorem args_ci_next_1 (a : Value) : argsOk "callable_iterator.__next__" ⟨[a], []⟩ := by
  unfold argsOk; rw [signature?_of (id := "callable_iterator.__next__") (n := ['_', '_', 't', 'x', 'e', 'n', '_', '_']) (o := ['r', 'o', 't', 'a', 'r', 'e', 't', 'i', '_', 'e', 'l', 'b', 'a', 'l', 'l', 'a', 'c']) (by kernel_rfl) owner_ci]; kernel_rfl
theorem slot_ci_iter : Slot "callable_iterator" "__iter__" "callable_iterator.__iter__" :=
  .of (owner := "callable_iterator") (n := "__iter__") (by rw [typeLookup_type, builtinLookup_eq_fast]; kernel_rfl) (by decide +kernel) (by decide +kernel) (by decide +kernel)
    (by first | exact .inl (by decide +kernel) | exact .inr (by decide +kernel)) (by rw [isSubtype_type]; kernel_rfl)
theorem args_ci_iter_1 (a : Value) : argsOk "callable_iterator.__iter__" ⟨[a], []⟩ := by
  unfold argsOk; rw [signature?_of (id := "callable_iterator.__iter__") (n := ['_', '_', 'r', 'e', 't', 'i', '_', '_']) (o := ['r', 'o', 't', 'a', 'r', 'e', 't', 'i', '_', 'e', 'l', 'b', 'a', 'l', 'l', 'a', 'c']) (by kernel_rfl) owner_ci]; kernel_rfl
theorem entry_ci_iter : entryFor table "callable_iterator.__iter__" = some Builtin.«dict_keyiterator.__iter__» :=
  entryFor_alias (id' := "dict_keyiterator.__iter__") (by rw [fastTable_eq_tree]; kernel_rfl) (by first | rfl | decide +kernel | (unfold String.splitOn; simp +decide [String.splitOnAux])) (by decide +kernel) (by rw [fastTable_eq_tree]; kernel_rfl)

def citObj (f : Value) (t : Tok) : Obj := { cls := .type "callable_iterator", data := .fields #[f, .str (Str.ofString "") t, .bool false] }
section
variable {prog : Program} {w : World} {A : Around} {E : Value → Shared → Prop} {s : Shared}
theorem wpAny_callBorrowed {M : Model} {f : Value} {pos : List Value} {Q : Value → Shared → Prop} (h : wpAny M A (call f pos) Q E s) : wpAny M A (callBorrowed f pos) Q E s := fun Γ p hΓ => by
  have h1 := h Γ p hΓ
  unfold call at h1
  rw [Sem.wp_runValue] at h1
  unfold callBorrowed
  rw [Sem.wp_call]
  refine wpCode_mono (fun r s' hr => ?_) h1
  cases r with
  | error e => exact hr
  | ok fl => cases fl <;> first | exact hr | exact hr.elim
theorem wpAny_borrowsExactly {M f : Addr} {x : Value} {fo : Obj} {fv} {Q : Bool → Shared → Prop} (hM : s.heap.get? M = some (methodObj (.ref f) x)) (hf : s.heap.get? f = some fo) (hfd : fo.data = .func fv) (h : Q true s) {Md : Model} : wpAny Md A (borrowsExactly (.ref M)) Q E s := by
  unfold borrowsExactly
  refine wpAny_bind (wpAny_load hM ?_)
  show wpAny _ _ (if ((methodObj (.ref f) x).cls == .type "method") = true then _ else _) _ _ _
  rw [if_pos (show (Value.type "method" == Value.type "method") = true from by decide +kernel)]
  show wpAny _ _ (_ >>= _) _ _ _
  refine wpAny_bind (wpAny_load hf ?_)
  rw [hfd]
  exact wpAny_pure h
theorem wpAny_pyNext_cit {it M f : Addr} {x : Value} {t : Tok} {fo : Obj} {fv} {Q : Option Value → Shared → Prop} (hh : A.handled = none) (hit : s.heap.get? it = some (citObj (.ref M) t)) (hM : s.heap.get? M = some (methodObj (.ref f) x)) (hf : s.heap.get? f = some fo) (hfd : fo.data = .func fv)
    (h : codeAny (model prog w) A.in1 (.call (.ref f) ⟨[x], []⟩) (wants (fun r s' => ∃ y u, r = .str y u ∧ s'.heap.get? it = some (citObj (.ref M) t) ∧ s'.heap.get? M = some (methodObj (.ref f) x) ∧ (∃ fo', s'.heap.get? f = some fo' ∧ ∃ fv', fo'.data = .func fv') ∧ (y ≠ Str.ofString "" → Q (some (.str y u)) s') ∧
      (y = Str.ofString "" → ∀ h', Heap.ExtBut it s'.heap h' → Q none { s' with heap := h' })) (fun _ _ => False)) s) : wpAny (model prog w) A (pyNext (.ref it)) Q E s := by
  have hT : s.TypeIs (.ref it) "callable_iterator" := ⟨_, hit, rfl⟩
  unfold pyNext
  refine wpAny_bind (wpAny_attempt (wpAny_callSpecial?_slot (name := Str.ofString "__next__") hT slot_ci_next
    (wpAny_call_entry slot_ci_next hT entry_ci_next ?_ (args_ci_next_1 _))))
  unfold Builtin.«callable_iterator.__next__»
  refine wpAny_bind (wpAny_of_eq (a := (Value.ref it, [])) rfl ?_)
  try dsimp only
  refine wpAny_bind (wpAny_field hit rfl (x := .bool false) rfl ?_)
  rw [if_neg (by decide +kernel)]
  show wpAny _ _ (field (.ref it) 0 >>= _) _ _ s
  refine wpAny_bind (wpAny_field hit rfl (x := .ref M) rfl ?_)
  refine wpAny_bind (wpAny_attempt ?_)
  unfold callOutOfASlot
  refine wpAny_bind (wpAny_borrowsExactly hM hf hfd ?_)
  rw [if_pos rfl]
  refine wpAny_callBorrowed (wpAny_call (method_call hM (codeAny_mono h fun r s₁ hr => ?_)))
  cases r with
  | error e => exact hr.elim
  | ok fl =>
  cases fl with
  | ret v =>
    obtain ⟨y, u, rfl, hit', hM', ⟨fo', hf', fv', hfd'⟩, hq, hq0⟩ := hr
    dsimp only
    refine wpAny_bind (wpAny_field hit' rfl (x := .bool false) rfl ?_)
    rw [if_neg (by decide +kernel)]
    refine wpAny_bind (wpAny_field hit' rfl (x := .str (Str.ofString "") t) rfl ?_)
    refine wpAny_bind (wpAny_holding (eqBool_str ?_))
    by_cases hy : y = Str.ofString ""
    · have hy' : (!(Str.ofString "" == y)) = false := by rw [hy]; decide +kernel
      rw [hy', if_neg Bool.false_ne_true]
      refine wpAny_bind (wpAny_rule ?_)
      refine wpAny_bind ?_
      refine wpAny_bind (m := field (.ref it) 0) (wpAny_field hit' rfl (x := .ref M) rfl ?_)
      refine wpAny_bind (m := slotLetsGo _ _ _) (wpAny_bind (m := borrowsExactly (.ref M)) (wpAny_borrowsExactly hM' hf' hfd' ?_))
      rw [if_pos rfl]
      refine wpAny_pure ?_
      obtain ⟨hh1, gg, dd, tk1, os1⟩ := s₁
      dsimp only at hit' hq0 hM' hf'
      refine wpAny_bind (wpAny_setField_rec hit' (by simp) fun h1 e1 x1 => ?_)
      refine wpAny_bind (wpAny_setField_rec e1 (by simp) fun h2 e2 x2 => ?_)
      refine (wpAny_setField_rec e2 (by simp) fun h3 e3 x3 => ?_)
      show wpAny _ _ (newExc (.type "StopIteration") [] >>= _) _ _ _
      refine wpAny_bind ?_
      simp only [newExc, newTuple]
      refine wpAny_bind (wpAny_newObj_type ?_ (by size_fits))
      refine wpAny_bind (m := firstArgMember _ _) (wpAny_of_eq (a := Value.none) (by first | rfl | (simp only [firstArgMember]; rfl)) ?_)
      refine wpAny_newObj_type ?_ (by size_fits)
      simp only [raiseNew]
      refine wpAny_bind (wpAny_handled ?_)
      first | rw [show A.in1.handled = none from hh] | rw [hh]
      refine wpAny_bind (wpAny_pure (wpAny_throw ?_))
      refine wpAny_bind (wpAny_isInstance (T := "StopIteration") (b := true) ⟨_, Heap.get?_push_size _ rfl, rfl⟩ isSubtype_stop ?_)
      exact wpAny_pure (hq0 hy _ (((((x1.extBut.trans x2.extBut).trans x3.extBut).push _).push _)))
    · have hy' : (!(Str.ofString "" == y)) = true := by
        rw [Bool.not_eq_true', beq_eq_false_iff_ne]; exact fun e => hy e.symm
      rw [hy', if_pos rfl]
      exact wpAny_pure ⟨_, rfl, wpAny_pure (hq hy)⟩
  | _ => exact hr.elim
theorem wpAny_pyIter_cit {it : Addr} {f : Value} {t : Tok} {Q : Value → Shared → Prop} (hit : s.heap.get? it = some (citObj f t)) (h : Q (.ref it) s) : wpAny (model prog w) A (pyIter (.ref it)) Q E s := by
  have hT : s.TypeIs (.ref it) "callable_iterator" := ⟨_, hit, rfl⟩
  refine wpAny_pyIter_slot hT slot_ci_iter (wpAny_call_entry slot_ci_iter hT entry_ci_iter ?_ (args_ci_iter_1 _))
  show wpAny _ _ (ret (.ref it)) _ _ s
  exact wpAny_pure ⟨_, rfl, "callable_iterator", _, hT, slot_ci_next.lookup, h⟩
end
section
variable {prog : Program} {w : World} {A : Around} {E : Value → Shared → Prop} {s : Shared} {h₀ : Heap} {L : Addr} {m : Str → Option Value} {news news' : Led}
theorem m_popS {Q : Value → Shared → Prop} {D : Addr} {vs : List Value} {n : Nat} {y : Value} (F : Fr h₀ L s.heap m) (N : News h₀ L s.heap news) (hz : vs.length ≤ 9000) (U : Upd D (listOf (List.toArray (vs ++ [y])) n) (listOf vs.toArray (n + 1)) news news')
    (h : ∀ h', Fr h₀ L h' m → News h₀ L h' news' → Q y { s with heap := h' }) : wpAny (model prog w) A (call (.builtin "list.pop") [.ref D]) Q E s :=
  kl_pop F N (kpa_last y vs) U (by rw [sizeLine_eq]; show (vs ++ [y]).length ≤ _; rw [List.length_append, List.length_singleton]; omega) h
theorem m_pop0 {Q : Value → Shared → Prop} {D : Addr} {vs : List Value} {n : Nat} {y : Value} {t : Tok} (F : Fr h₀ L s.heap m) (N : News h₀ L s.heap news) (hz : vs.length ≤ 9000) (U : Upd D (listOf (List.toArray (y :: vs)) n) (listOf vs.toArray (n + 1)) news news')
    (h : ∀ h', Fr h₀ L h' m → News h₀ L h' news' → Q y { s with heap := h' }) : wpAny (model prog w) A (call (.builtin "list.pop") [.ref D, .int 0 t]) Q E s :=
  kl_popAt (k := 0) (p := []) (q := vs) F N (by decide +kernel) (by simp [seqIndex?]) rfl U (by rw [sizeLine_eq]; show (y :: vs).length ≤ _; rw [List.length_cons]; omega) h
theorem m_truthyC {Q : Bool → Shared → Prop} {D : Addr} {vs : List Value} {n : Nat} {y : Value} (N : News h₀ L s.heap news) (hm : (D, listOf (List.toArray (y :: vs)) n) ∈ news) (hz : vs.length ≤ 9000)
    (h : Q true { s with toks := s.toks + 1 + 1 }) : wpAny (model prog w) A (truthy (.ref D)) Q E s := by
  refine wpAny_truthy_list ⟨_, (N _ hm).1, rfl, n, rfl⟩ ?_ ?_
  · rw [List.size_toArray, List.length_cons]; omega
  · have e : (!(List.toArray (y :: vs)).isEmpty) = true := by simp
    rw [e]; exact h
theorem m_truthyNE {Q : Bool → Shared → Prop} {D : Addr} {vs : List Value} {n : Nat} {y : Value} (N : News h₀ L s.heap news) (hm : (D, listOf (List.toArray (vs ++ [y])) n) ∈ news) (hz : vs.length ≤ 9000)
    (h : Q true { s with toks := s.toks + 1 + 1 }) : wpAny (model prog w) A (truthy (.ref D)) Q E s := by
  refine wpAny_truthy_list ⟨_, (N _ hm).1, rfl, n, rfl⟩ ?_ ?_
  · rw [List.size_toArray, List.length_append, List.length_singleton]; omega
  · have e : (!(List.toArray (vs ++ [y])).isEmpty) = true := by simp
    rw [e]; exact h
theorem iter_args2 (a b : Value) : argsOk "iter" ⟨[a, b], []⟩ := by unfold argsOk; kernel_rfl
theorem look_method_call : typeLookup (.type "method") (Str.ofString "__call__") = pure (some (.builtin "method.__call__")) := by rw [typeLookup_type, builtinLookup_eq_fast]; kernel_rfl
theorem m_iterSent {Q : Value → Shared → Prop} {M : Addr} {f x : Value} {t : Tok} (F : Fr h₀ L s.heap m) (N : News h₀ L s.heap news) (hM : (M, methodObj f x) ∈ news)
    (h : ∀ D h', Fr h₀ L h' m → News h₀ L h' ((D, citObj (.ref M) t) :: news) → (∀ q ∈ news, q.1 < D) → Q (.ref D) { s with heap := h' }) :
    wpAny (model prog w) A (call (.builtin "iter") [.ref M, .str (Str.ofString "") t]) Q E s := by
  have hT : s.TypeIs (.ref M) "method" := ⟨_, (N _ hM).1, rfl⟩
  have hcv := look_method_call
  refine call_function_entry (by decide +kernel) (by decide +kernel) kdk_entry_iter (iter_args2 _ _) ?_
  unfold Builtin.«iter»
  refine wpAny_bind (m := someArgs "iter" 1 2 _) (wpAny_of_eq (a := [Value.ref M, .str (Str.ofString "") t]) (by first | rfl | kernel_rfl!) ?_)
  dsimp only
  refine wpAny_bind (wpAny_specialOf (name := Str.ofString "__call__") hT hcv ?_)
  rw [if_neg (by simp)]
  refine wpAny_bind (wpAny_rule ?_)
  refine wpAny_bind (m := newFields _ _) (wpAny_newObj_type ?_)
  exact wpAny_pure ⟨_, rfl, h _ _ (F.push _) (News.push F N _) fun p hp => Heap.lt_size (N p hp).1⟩
end
section
variable {prog : Program} {w : World} {A : Around} {E : Value → Shared → Prop} {env : Env}
theorem citRest_ind {v : Str} {body : List Stmt} {Q : Flow → Shared → Prop} {I : Addr} (J : Nat → Shared → Prop)
    (turn : ∀ k s, J k s → wpAny (model prog w) A (pyNext (.ref I)) (OwitTurn prog w A E env v body Q (fun s' => ∃ j, j < k ∧ J j s')) E s) :
    ∀ n k s, k < n → J k s → OwitRest prog w A E env v body Q I n s
  | 0, _, _, h, _ => absurd h (Nat.not_lt_zero _)
  | n + 1, k, s, h, hJ => by
    refine OwitRest.succ (wpAny_mono (turn k s hJ) (fun r s₁ hr => ?_) fun _ _ e => e)
    cases r with
    | none => exact hr
    | some y =>
      refine wpAny_mono (hr : wpAny _ _ (storeName env v y) _ _ s₁) (fun _ s₂ h₂ => wpAny_mono h₂ (fun f s₃ h₃ => ?_) fun _ _ e => e) fun _ _ e => e
      cases f with
      | next => obtain ⟨j, hj, hJ'⟩ := h₃; exact citRest_ind J turn n j _ (by omega) hJ'
      | cont => obtain ⟨j, hj, hJ'⟩ := h₃; exact citRest_ind J turn n j _ (by omega) hJ'
      | brk => exact h₃
      | ret _ => exact h₃
end
/-- Spec, of the code of a call -/
def CSpec (w : World) (f : Value) (vs : List Value) (D U : Nat) (ro foot : Led) (Post : Value → Led → Prop) : Prop :=
  ∀ (p : Program) (loose : List Str) (mean : ExcName → Option Value) (mg mb : Str → Option Value) (dp un : Nat) (gd : Option (List Code)) (cn : Str) (nm : List (Str × NameKind)) (g1 g2 : Bool) (mr : List (Str × Const)) (a : Addr) (ccd : Value) (cl : List (Str × Addr)) (outer : List Env) (A₀ : Around) (base h₀ : Heap) (L : Addr) (m : Str → Option Value) (rest : Led) (s : Shared) (Q E : Value → Shared → Prop),
    Below A₀ base outer h₀ → Fr h₀ L s.heap m → (Mine.hd.heap_39 w.params).In h₀ → News h₀ L s.heap (foot ++ rest) → Apart foot rest → AtAll s.heap ro → Apart ro foot → Top p loose mean mg mb h₀ → dp + D < recursionLimit → un + U < cLine →
    (∀ (r : Value) (new : Led) (h' : Heap) (tk' : Nat), Post r new → Fr h₀ L h' m → News h₀ L h' (new ++ rest) → Apart new rest → Q r { s with heap := h', toks := tk' }) →
    codeAny (model PySem.Challenge.rw_sw0064_01.row.prog w) (ktrTop dp un gd cn { kind := .function, names := nm, isGenerator := g1, isCoroutine := g2, more := mr } L a ccd cl outer) (.call f ⟨vs, []⟩) (fun r s' => match r with | .ok (.ret v) => Q v s' | .ok _ => False | .error e => E e s') s
theorem CSpec.spec {w : World} {f : Value} {vs : List Value} {D U : Nat} {ro foot : Led} {Post : Value → Led → Prop} (S : CSpec w f vs D U ro foot Post) : Spec w f vs D U ro foot Post :=
  fun _ _ _ _ _ _ _ _ _ _ _ _ _ _ _ _ _ _ _ _ _ _ _ _ _ _ B F X N hap hro hdr T hd hu ret => wpAny_call (S _ _ _ _ _ _ _ _ _ _ _ _ _ _ _ _ _ _ _ _ _ _ _ _ _ _ B F X N hap hro hdr T hd hu ret)
end
section
theorem q_sg : Str.ofString "\"" = sg 34 := by decide +kernel
theorem bs_sg : Str.ofString "\\" = sg 92 := by decide +kernel
theorem q_ne {c : Nat} (h : c ≠ 34) : (sg c == Str.ofString "\"") = false := by rw [q_sg, sg_eq]; exact decide_eq_false h
theorem bs_ne {c : Nat} (h : c ≠ 92) : (sg c == Str.ofString "\\") = false := by rw [bs_sg, sg_eq]; exact decide_eq_false h
theorem flat2_len : ∀ ws : List Nat, (ws.flatMap (fun c => [92, c])).length = 2 * ws.length
  | [] => rfl
  | c :: ws => by rw [List.flatMap_cons, List.length_append, flat2_len ws, List.length_cons]; simp only [List.length_cons, List.length_nil]; omega
theorem flatQ_len : ∀ ws : List Nat, ws.length ≤ (ws.flatMap encQ).length
  | [] => Nat.le_refl _
  | c :: ws => by
    have := flatQ_len ws
    have h1 : 1 ≤ (encQ c).length := by unfold encQ; split <;> simp
    rw [List.flatMap_cons, List.length_append, List.length_cons]; omega
end
section
/-- the signs of 'ab "\\\n#\t' -/
def ringL : List Nat := [97, 98, 32, 34, 92, 10, 35, 9]
/-- the nought and the one -/
def zoL : List (Nat × Nat) := (List.range 8).map fun i => (ringL.getD i 0, ringL.getD ((i + 3) % 8) 0)
def bw (z o : Nat) (bs : List Bool) : List Nat := bs.map fun b => if b then o else z
def find3 : List Bool → Option Nat
  | false :: true :: true :: _ => some 0
  | _ :: r => (find3 r).map (· + 1)
  | [] => none
def repl : List Bool → List Bool
  | false :: true :: true :: r => true :: false :: false :: r
  | b :: r => b :: repl r
  | [] => []
def all7 : List (List Bool) := (List.range 128).map fun n => (List.range 7).map fun i => (n / 2 ^ i % 2 == 1)
theorem zo_ne : ∀ p ∈ zoL, p.1 ≠ p.2 := by decide +kernel
def wantL (p : Nat × Nat) : Str := strL [46, 46, 46, p.1, p.2, p.2, 46, 46, 46]
theorem ell_in0 : ∀ p ∈ zoL, (Builtin.Str.occurrences (wantL p) (Str.ofString "...") 0 (wantL p).length 1).isEmpty = false := by decide +kernel
theorem ell_split1 : ∀ p ∈ zoL, Txt.split (wantL p) (Str.ofString "...") = [Str.ofString "", strL [p.1, p.2, p.2], Str.ofString ""] := by decide +kernel
section
variable {prog : Program} {w : World} {A : Around} {E : Value → Shared → Prop} {s : Shared} {h₀ : Heap} {L : Addr} {m : Str → Option Value} {news : Led}
theorem m_split3 {x y p0 p1 p2 : Str} {t u : Tok} {Q : Value → Shared → Prop} (F : Fr h₀ L s.heap m) (N : News h₀ L s.heap news) (hy : (y.length == 0) = false) (e : Txt.split x y = [p0, p1, p2]) (hsz : x.length ≤ 9000)
    (h : ∀ D h' k t0 t1 t2, Fr h₀ L h' m → News h₀ L h' ((D, listOf #[.str p0 t0, .str p1 t1, .str p2 t2] 0) :: news) → (∀ q ∈ news, q.1 < D) → Q (.ref D) { s with heap := h', toks := k }) :
    wpAny (model prog w) A (call (.builtin "str.split") [.str x t, .str y u]) Q E s := by
  refine KSpl.split1 F N hy (fun D l h' k e1 _ F' N' l1 => ?_) (by rw [sizeLine_eq]; omega)
  rw [e] at e1
  obtain ⟨t0, l, rfl, e2⟩ := KSpl.cons_of e1
  obtain ⟨t1, l, rfl, e3⟩ := KSpl.cons_of e2
  obtain ⟨t2, l, rfl, e4⟩ := KSpl.cons_of e3
  have := KSpl.nil_of e4
  subst this
  exact h D h' k t0 t1 t2 F' N' l1
end
theorem args_find_4 (a b c d : Value) : argsOk "str.find" ⟨[a, b, c, d], []⟩ := by
  unfold argsOk; rw [signature?_of (id := "str.find") (n := ['d', 'n', 'i', 'f']) (o := ['r', 't', 's']) (by kernel_rfl) PySem.F.owner_str]; kernel_rfl
def fnd (x y : Str) (i j : Nat) : Int := match Builtin.Str.occurrences x y i j 1 with | k :: _ => (k : Int) | [] => -1
theorem gives_find4 (x y : Str) (i j : Nat) (hj : j ≤ x.length) (t u v v' : Tok) : Gives (Builtin.«str.find» ⟨[.str x t, .str y u, .int i v, .int j v'], []⟩) (.int (fnd x y i j)) := by
  have e : Gives (match Builtin.Str.occurrences x y (fromIndex x.length i) (min (fromIndex x.length j) x.length) 1 with | k :: _ => retInt k | [] => (do rule "str.find.not-found"; retInt (-1))) (.int (fnd x y i j)) := by
    have e1 : fromIndex x.length (i : Int) = i := by unfold fromIndex; rw [if_neg (by omega)]; omega
    have e2 : fromIndex x.length (j : Int) = j := by unfold fromIndex; rw [if_neg (by omega)]; omega
    rw [e1, e2, Nat.min_eq_left hj]
    unfold fnd
    cases Builtin.Str.occurrences x y i j 1 with
    | nil => exact .rule (.of_eq rfl)
    | cons k _ => exact .of_eq rfl
  exact e
section
variable {prog : Program} {w : World} {A : Around} {E : Value → Shared → Prop} {s : Shared}
theorem m_find4 {x y : Str} {i j : Int} {a b : Nat} {t u v v' : Tok} {Q : Value → Shared → Prop} (hi : i = a) (hj : j = b) (hb : b ≤ x.length) (hq : Q (.int (fnd x y a b) s.toks) { s with toks := s.toks + 1 }) :
    wpAny (model prog w) A (call (.builtin "str.find") [.str x t, .str y u, .int i v, .int j v']) Q E s := by
  subst hi; subst hj
  exact call_gives F.slot_str_find (typeIs_str _ _ _) F.entry_str_find (args_find_4 _ _ _ _) (gives_find4 x y a b hb t u v v') hq
end
theorem mem7 : ∀ a b c d e f g : Bool, [a, b, c, d, e, f, g] ∈ all7 := by decide +kernel
theorem len_el {α : Type} {n : Nat} (P : List α → Prop) (k : ∀ a r, r.length = n → P (a :: r)) : ∀ l : List α, l.length = n + 1 → P l
  | a :: r, h => k a r (Nat.succ.inj h)
theorem len_nil {α : Type} (P : List α → Prop) (k : P []) : ∀ l : List α, l.length = 0 → P l
  | [], _ => k
theorem mem_all7 {bs : List Bool} (h : bs.length = 7) : bs ∈ all7 :=
  len_el (· ∈ all7) (fun a => len_el (a :: · ∈ all7) fun b => len_el (a :: b :: · ∈ all7) fun c => len_el (a :: b :: c :: · ∈ all7) fun d => len_el (a :: b :: c :: d :: · ∈ all7) fun e => len_el (a :: b :: c :: d :: e :: · ∈ all7) fun f => len_el (a :: b :: c :: d :: e :: f :: · ∈ all7) fun g => len_nil (a :: b :: c :: d :: e :: f :: g :: · ∈ all7) (mem7 a b c d e f g)) bs h
def fnd3 (bs : List Bool) : Int := match find3 bs with | some k => (k : Int) | none => -1
theorem bw_lenS (z o : Nat) (l : List Bool) : (strL (bw z o l)).length = l.length := by
  show (bw z o l).toArray.size = _
  rw [List.size_toArray, bw, List.length_map]
theorem bw_inj {z o : Nat} (h : z ≠ o) {l m : List Bool} (e : bw z o l = bw z o m) : l = m :=
  (List.map_inj_right (fun a b q => by cases a <;> cases b <;> first | rfl | exact absurd q h | exact absurd q.symm h)).1 e
theorem sub_bw {z o : Nat} (h : z ≠ o) (l m : List Bool) (i : Nat) : Builtin.Str.subAt (strL (bw z o l)) (strL (bw z o m)) i = ((l.drop i).take m.length == m) := by
  have e : (bw z o l).toArray.extract i (i + m.length) = (bw z o ((l.drop i).take m.length)).toArray := by
    rw [List.extract_toArray, List.extract_eq_take_drop, Nat.add_sub_cancel_left, bw, bw, List.map_take, List.map_drop]
  unfold Builtin.Str.subAt
  rw [bw_lenS, Bool.eq_iff_iff]
  show (Array.extract (bw z o l).toArray i (i + m.length) == (bw z o m).toArray) = true ↔ _
  rw [e, beq_iff_eq, beq_iff_eq]
  exact ⟨fun x => bw_inj h (List.toArray_inj x), fun x => by rw [x]⟩
theorem occ_bw {z o : Nat} (h : z ≠ o) (l m : List Bool) (a b k : Nat) : Builtin.Str.occurrences (strL (bw z o l)) (strL (bw z o m)) a b k = Builtin.Str.occurrences (strL (bw 0 1 l)) (strL (bw 0 1 m)) a b k := by
  unfold Builtin.Str.occurrences
  simp only [bw_lenS, sub_bw h, sub_bw (show (0 : Nat) ≠ 1 by decide)]
theorem ofs0 : Str.ofString "" = strL [] := by decide +kernel
theorem ell_g0 : ∀ bs ∈ all7, fnd (strL (bw 0 1 bs)) (strL []) 0 7 = 0 := by decide +kernel
theorem ell_g1 : ∀ bs ∈ all7, fnd (strL (bw 0 1 bs)) (strL [0, 1, 1]) 0 7 = fnd3 bs := by decide +kernel
theorem ell_g2 : ∀ bs ∈ all7, ∀ k ∈ [0, 1, 2, 3, 4], fnd (strL (bw 0 1 bs)) (strL []) (k + 3) 7 = ((k + 3 : Nat) : Int) := by decide +kernel
theorem ell_f0 : ∀ p ∈ zoL, ∀ bs ∈ all7, fnd (strL (bw p.1 p.2 bs)) (Str.ofString "") 0 7 = 0 := fun p hp bs hb => by
  rw [ofs0]; unfold fnd; rw [show strL [] = strL (bw p.1 p.2 []) from rfl, occ_bw (zo_ne p hp)]; exact ell_g0 bs hb
theorem ell_f1 : ∀ p ∈ zoL, ∀ bs ∈ all7, fnd (strL (bw p.1 p.2 bs)) (strL [p.1, p.2, p.2]) 0 7 = fnd3 bs := fun p hp bs hb => by
  unfold fnd; rw [show strL [p.1, p.2, p.2] = strL (bw p.1 p.2 [false, true, true]) from rfl, occ_bw (zo_ne p hp)]; exact ell_g1 bs hb
theorem ell_f2 : ∀ p ∈ zoL, ∀ bs ∈ all7, ∀ k ∈ [0, 1, 2, 3, 4], fnd (strL (bw p.1 p.2 bs)) (Str.ofString "") (k + 3) 7 = ((k + 3 : Nat) : Int) := fun p hp bs hb k hk => by
  rw [ofs0]; unfold fnd; rw [show strL [] = strL (bw p.1 p.2 []) from rfl, occ_bw (zo_ne p hp)]; exact ell_g2 bs hb k hk
theorem ell_b3 : ∀ bs ∈ all7, (find3 bs).all (fun k => k ≤ 4) = true := by decide +kernel
end
section
open PySem.Builtin.Str in
def rpl1 (x y z : Str) : Str := glued z (partsBetween x (occurrences x y 0 x.length 1) y.length)
open PySem.Builtin PySem.Builtin.Str in
theorem gives_repl1 (x y z : Str) (t u v c : Tok) (ho : (occurrences x y 0 x.length 1).isEmpty = false) (hy : (y.length == 0) = false) (hu : (u == 0 || v == 0) = false) (huv : (u == v) = false) (hyz : (y == z) = false) (hl : tooLong (x.length + (occurrences x y 0 x.length 1).length * z.length) = false) :
    Gives («str.replace» ⟨[.str x t, .str y u, .str z v, .int 1 c], []⟩) (.str (rpl1 x y z)) := by
  show Gives (if ((occurrences x y 0 x.length 1).isEmpty || (y.length == 0 && z.length == 0)) = true then (do rule "str.replace.nothing"; ret (.str x t)) else
          (do let same ← isSame (.str y u) (.str z v)
              if same = true then (do rule "str.replace.old-is-new"; ret (.str x t)) else
              if tooLong (x.length + (occurrences x y 0 x.length 1).length * z.length) = true then unsupported "str.replace:memory" else
              retStr (glued z (partsBetween x (occurrences x y 0 x.length 1) y.length)))) _
  rw [ho, hy, isSame_str_other y z u v hu huv hyz, hl]
  exact .of_eq rfl
section
variable {prog : Program} {w : World} {A : Around} {E : Value → Shared → Prop} {s : Shared}
theorem m_addT {x y : Str} {t u : Tok} {Q : Value → Shared → Prop} (hx : 1 ≤ x.length) (hy : 1 ≤ y.length) (hs : x.length + y.length ≤ 9000) (h : Q (.str (x ++ y) s.toks) { s with toks := s.toks + 1 }) : wpAny (model prog w) A (binaryOp .Add (.str x t) (.str y u)) Q E s := by
  refine PySem.P.add_str ?_
  have e1 : (x.length == 0) = false := beq_eq_false_iff_ne.mpr (by omega)
  have e2 : (y.length == 0) = false := beq_eq_false_iff_ne.mpr (by omega)
  rw [e1, e2, if_neg Bool.false_ne_true, if_neg Bool.false_ne_true]
  refine ⟨?_, h⟩
  rw [sizeLine_eq]
  show (x.cps ++ y.cps).size ≤ _
  rw [Array.size_append]
  have : x.cps.size + y.cps.size ≤ 9000 := hs
  omega
theorem m_repl1 {x y z : Str} {t u v c : Tok} {Q : Value → Shared → Prop} (ho : (Builtin.Str.occurrences x y 0 x.length 1).isEmpty = false) (hy : (y.length == 0) = false) (hu : u ≠ 0) (hv : v ≠ 0) (huv : u ≠ v) (hyz : (y == z) = false) (hx : x.length ≤ 9) (hz : z.length ≤ 9) (hr : (rpl1 x y z).length ≤ 9000)
    (h : ∀ t' k, Q (.str (rpl1 x y z) t') { s with toks := k }) : wpAny (model prog w) A (call (.builtin "str.replace") [.str x t, .str y u, .str z v, .int 1 c]) Q E s := by
  refine call_gives F.slot_str_replace (typeIs_str _ _ _) F.entry_str_replace (F.args_str_replace_4 _ _ _ _) (gives_repl1 x y z t u v c ho hy ?_ ?_ hyz ?_) ⟨by rw [sizeLine_eq]; omega, h _ _⟩
  · simp [hu, hv]
  · simp [huv]
  · have h1 := PySem.StrLaws.occ_length_le x y 0 x.length 1
    have h2 : (Builtin.Str.occurrences x y 0 x.length 1).length * z.length ≤ 1 * 9 := Nat.mul_le_mul h1 hz
    unfold PySem.Builtin.Str.tooLong
    rw [decide_eq_false_iff_not, sizeLine_eq]; omega
end
theorem rp_p : ∀ bs ∈ all7, (find3 bs).isSome = true → (Builtin.Str.occurrences (strL (bw 0 1 bs)) (strL [0, 1, 1]) 0 7 1).isEmpty = false := by decide +kernel
theorem rp_o : ∀ p ∈ zoL, ∀ bs ∈ all7, (find3 bs).isSome = true → (Builtin.Str.occurrences (strL (bw p.1 p.2 bs)) (strL [p.1, p.2, p.2]) 0 7 1).isEmpty = false := fun p hp bs hb h => by
  rw [show strL [p.1, p.2, p.2] = strL (bw p.1 p.2 [false, true, true]) from rfl, occ_bw (zo_ne p hp)]; exact rp_p bs hb h
def mapS (f : Nat → Nat) (s : Str) : Str := ⟨s.cps.map f⟩
theorem bw_map (z o : Nat) (l : List Bool) : strL (bw z o l) = mapS (fun n => if n = 1 then o else z) (strL (bw 0 1 l)) := by
  show (⟨(bw z o l).toArray⟩ : Str) = ⟨(bw 0 1 l).toArray.map _⟩
  rw [List.map_toArray, bw, bw, List.map_map]
  congr 3
  funext b; cases b <;> rfl
theorem sub_map (f : Nat → Nat) (s : Str) (i j : Nat) : Builtin.Str.strSub (mapS f s) i j = mapS f (Builtin.Str.strSub s i j) := congrArg Str.mk Array.map_extract.symm
theorem glued_map (f : Nat → Nat) (g : Str) (ps : List Str) : Builtin.Str.glued (mapS f g) (ps.map (mapS f)) = mapS f (Builtin.Str.glued g ps) := by
  have e : ∀ (l : List Str) (a : Array Nat), (l.map (mapS f)).foldl (fun acc p => acc ++ (mapS f g).cps ++ p.cps) (a.map f) = (l.foldl (fun acc p => acc ++ g.cps ++ p.cps) a).map f := by
    intro l
    induction l with
    | nil => intro a; rfl
    | cons p r ih =>
      intro a
      rw [List.map_cons, List.foldl_cons, List.foldl_cons, ← ih, Array.map_append, Array.map_append]; rfl
  cases ps with
  | nil => exact congrArg Str.mk (List.map_toArray (f := f) (l := [])).symm
  | cons p r => exact congrArg Str.mk (e r p.cps)
theorem parts_map (f : Nat → Nat) (s : Str) (cuts : List Nat) (n : Nat) : Builtin.Str.partsBetween (mapS f s) cuts n = (Builtin.Str.partsBetween s cuts n).map (mapS f) := by
  unfold Builtin.Str.partsBetween
  rw [List.map_map, show (mapS f s).length = s.length from Array.size_map ..]
  exact List.map_congr_left fun p _ => sub_map f s p.1 p.2
theorem rp_q : ∀ bs ∈ all7, (find3 bs).isSome = true → rpl1 (strL (bw 0 1 bs)) (strL [0, 1, 1]) (strL [1, 0, 0]) = strL (bw 0 1 (repl bs)) := by decide +kernel
theorem rp_r : ∀ p ∈ zoL, ∀ bs ∈ all7, (find3 bs).isSome = true → rpl1 (strL (bw p.1 p.2 bs)) (strL [p.1, p.2, p.2]) (strL [p.2, p.1, p.1]) = strL (bw p.1 p.2 (repl bs)) := fun p hp bs hb h => by
  have e := rp_q bs hb h
  unfold rpl1 at e ⊢
  rw [show strL [p.1, p.2, p.2] = strL (bw p.1 p.2 [false, true, true]) from rfl, occ_bw (zo_ne p hp), bw_lenS, bw_lenS, show strL [p.2, p.1, p.1] = strL (bw p.1 p.2 [true, false, false]) from rfl, bw_map p.1 p.2 bs, bw_map p.1 p.2 [true, false, false], bw_map p.1 p.2 (repl bs), parts_map, glued_map, ← e, bw_lenS]
  rfl
def settle (bs : List Bool) : List Bool := repl (repl (repl (repl (repl (repl (repl (repl (repl (repl bs)))))))))
def ones (bs : List Bool) : Nat := bs.countP id
theorem repl_len : ∀ bs ∈ all7, (repl bs).length = 7 := by decide +kernel
theorem repl_ones : ∀ bs ∈ all7, (find3 bs).isSome = true → ones (repl bs) + 1 = ones bs := by decide +kernel
theorem repl_settle : ∀ bs ∈ all7, settle (repl bs) = settle bs := by decide +kernel
theorem settle_fix : ∀ bs ∈ all7, find3 bs = none → settle bs = bs := by decide +kernel
theorem repl_id : ∀ bs ∈ all7, find3 bs = none → repl bs = bs := by decide +kernel
theorem ones_le : ∀ bs ∈ all7, ones bs ≤ 7 := by decide +kernel
end
section
section
variable {prog : Program} {w : World} {A : Around} {E : Value → Shared → Prop} {s : Shared} {env : Env} {h₀ : Heap} {x : Str} {body : List Stmt} {Q : Flow → Shared → Prop} {I : Addr} {a : Int} {n : Nat}
theorem rangeRest_ind (J : Nat → (Str → Option Value) → Led → Prop)
    (step : ∀ i m n', i < n → J i m n' → ∀ (it : Obj) t h tk, Fr h₀ env.locals h (fun y => if y = x then some (.int (a + (i : Int)) t) else m y) → News h₀ env.locals h ((I, it) :: n') →
      wpAny (model prog w) A (execs body env) (UnrPost h₀ env.locals { s with heap := h, toks := tk } I it (J (i + 1)) Q) E { s with heap := h, toks := tk })
    (fin : ∀ m n', J n m n' → ∀ h tk, Fr h₀ env.locals h m → News h₀ env.locals h n' → Q .next { s with heap := h, toks := tk }) :
    ∀ k i m n', k + i = n → J i m n' → RangeRest prog w A E h₀ env x body Q s I a n k i m n' := by
  intro k
  induction k with
  | zero => exact fun i m n' e hJ => fin m n' ((Nat.zero_add i).symm.trans e ▸ hJ)
  | succ k ih => exact fun i m n' e hJ => RangeRest.succ fun t h tk F N => wpAny_mono (step i m n' (e ▸ Nat.lt_add_of_pos_left (Nat.succ_pos k)) hJ _ t h tk F N) (fun f _ u => unr_mono (fun m' n' q => ih (i + 1) m' n' ((Nat.succ_add_eq_add_succ k i).symm.trans e) q) f u) fun _ _ e => e
end
def qw (z o : Nat) (cs : List (List Bool)) : List Str := cs.map fun c => strL (bw z o c)
def que (cs : List (List Bool)) (i : Nat) : List (List Bool) := cs.drop i ++ (cs.take i).map repl
def anyB (cs : List (List Bool)) (i : Nat) : Bool := (cs.take i).any fun c => (find3 c).isSome
theorem que_step {cs : List (List Bool)} {i : Nat} (h : i < cs.length) : ∃ c, c ∈ cs ∧ que cs i = c :: (cs.drop (i + 1) ++ (cs.take i).map repl) ∧ que cs (i + 1) = (cs.drop (i + 1) ++ (cs.take i).map repl) ++ [repl c] ∧ anyB cs (i + 1) = (anyB cs i || (find3 c).isSome) := by
  have hc : cs[i]? = some cs[i] := List.getElem?_eq_getElem h
  have hd : cs.drop i = cs[i] :: cs.drop (i + 1) := List.drop_eq_getElem_cons h
  have ht : cs.take (i + 1) = cs.take i ++ [cs[i]] := by rw [List.take_add_one, hc]; rfl
  refine ⟨cs[i], List.getElem_mem h, ?_, ?_, ?_⟩
  · unfold que; rw [hd]; rfl
  · unfold que; rw [ht, List.map_append, List.append_assoc]; rfl
  · unfold anyB; rw [ht, List.any_append]; simp
theorem ones_any : ∀ {cs : List (List Bool)}, (∀ c ∈ cs, c.length = 7) → cs.any (fun c => (find3 c).isSome) = true → ((cs.map repl).map ones).sum < (cs.map ones).sum
  | [], _, h => by simp at h
  | c :: cs, h7, h => by
    have hc := mem_all7 (h7 c (.head _))
    have hle : ∀ {cs : List (List Bool)}, (∀ c ∈ cs, c.length = 7) → ((cs.map repl).map ones).sum ≤ (cs.map ones).sum := by
      intro cs
      induction cs with
      | nil => intro _; simp
      | cons a l ih =>
        intro h7
        have ha := mem_all7 (h7 a (.head _))
        have h1 := ih fun c hc => h7 c (.tail _ hc)
        have h2 : ones (repl a) ≤ ones a := by
          cases hf : find3 a with
          | none => rw [repl_id a ha hf]; exact Nat.le_refl _
          | some k => have := repl_ones a ha (by rw [hf]; rfl); omega
        simp only [List.map_cons, List.sum_cons]; omega
    have hr := hle fun c hc => h7 c (.tail _ hc)
    simp only [List.map_cons, List.sum_cons]
    rw [List.any_cons, Bool.or_eq_true] at h
    rcases h with h | h
    · have := repl_ones c hc h; omega
    · have h1 := ones_any (fun c hc => h7 c (.tail _ hc)) h
      have h2 : ones (repl c) ≤ ones c := by
        cases hf : find3 c with
        | none => rw [repl_id c hc hf]; exact Nat.le_refl _
        | some k => have := repl_ones c hc (by rw [hf]; rfl); omega
      omega
theorem any_none {cs : List (List Bool)} (h7 : ∀ c ∈ cs, c.length = 7) (h : cs.any (fun c => (find3 c).isSome) = false) : cs.map repl = cs ∧ ∀ c ∈ cs, find3 c = none := by
  have hn : ∀ c ∈ cs, find3 c = none := fun c hc => by
    have := List.any_eq_false.mp h c hc
    cases hf : find3 c with
    | none => rfl
    | some k => rw [hf] at this; simp at this
  refine ⟨?_, hn⟩
  conv => rhs; rw [← List.map_id cs]
  exact List.map_congr_left fun c hc => repl_id c (mem_all7 (h7 c hc)) (hn c hc)
theorem repl_all {cs : List (List Bool)} (h7 : ∀ c ∈ cs, c.length = 7) : ∀ c ∈ cs.map repl, c.length = 7 := fun c hc => by
  obtain ⟨d, hd, rfl⟩ := List.mem_map.mp hc
  exact repl_len d (mem_all7 (h7 d hd))
theorem settle_map {cs : List (List Bool)} (h7 : ∀ c ∈ cs, c.length = 7) : (cs.map repl).map settle = cs.map settle := by
  rw [List.map_map]; exact List.map_congr_left fun c hc => repl_settle c (mem_all7 (h7 c hc))
theorem strs_snoc' {vs : List Value} {ps : List Str} {p : Str} {t : Tok} (h : StrsAre vs ps) : StrsAre (vs ++ [.str p t]) (ps ++ [p]) := strs_snoc h
theorem strA_len (x y : Str) : (x ++ y).length = x.length + y.length := by
  show (x.cps ++ y.cps).size = _
  rw [Array.size_append]; rfl
theorem dots_len : (Str.ofString "...").length = 3 := by decide +kernel
theorem dots_strL : Str.ofString "..." = strL [46, 46, 46] := by decide +kernel
theorem want_eq (z o : Nat) : Str.ofString "..." ++ sg z ++ sg o ++ sg o ++ Str.ofString "..." = strL [46, 46, 46, z, o, o, 46, 46, 46] := by
  rw [dots_strL, sg_strL, sg_strL, strL_append, strL_append, strL_append, strL_append]; rfl
theorem zoo_eq (z o : Nat) : sg z ++ sg o ++ sg o = strL [z, o, o] := by rw [sg_strL, sg_strL, strL_append, strL_append]; rfl
theorem bw_len (z o : Nat) (bs : List Bool) : (strL (bw z o bs)).length = bs.length := by rw [strL_length, bw, List.length_map]
def Mark9 : Prop := True
theorem mark9 : Mark9 := trivial
theorem zoo_ne : ∀ p ∈ zoL, (strL [p.1, p.2, p.2] == strL [p.2, p.1, p.1]) = false := by decide +kernel
end
section
def lawDef : Stmt := (PySem.Challenge.pw_sw0064_01.main.body.find? (isDefOf (Str.ofString "law"))).getD (.Pass default)
def lawBody : List Stmt := defBody lawDef
def defScope : Stmt → Scope
  | .FunctionDef _ _ _ _ _ _ sc _ _ _ => sc
  | _ => default
def lawScope : Scope := defScope lawDef
theorem execs_split {M : Model} {A : Around} {E : Value → Shared → Prop} {env : Env} {Q : Flow → Shared → Prop} (l1 l2 : List Stmt) {s : Shared} (h : wpAny M A (execs l1 env) (fun f s' => match f with | .next => wpAny M A (execs l2 env) Q E s' | f => Q f s') E s) : wpAny M A (execs (l1 ++ l2) env) Q E s := by
  intro Γ p hΓ
  have key : ∀ (l1 : List Stmt) (p : Pos) (s : Shared), Sem.wp M Γ (execs l1 env) (fun f _ s' => match f with | .next => wpAny M A (execs l2 env) Q E s' | f => Q f s') (fun e _ s' => E e s') p s → Sem.wp M Γ (execs (l1 ++ l2) env) (fun f _ s' => Q f s') (fun e _ s' => E e s') p s := by
    intro l1
    induction l1 with
    | nil =>
      intro p s h
      rw [execs_nil, Sem.wp_pure'] at h
      exact h Γ p hΓ
    | cons a l1 ih =>
      intro p s h
      rw [execs_cons, Sem.wp_bind'] at h
      show Sem.wp _ _ (execs (a :: (l1 ++ l2)) env) _ _ _ _
      rw [execs_cons, Sem.wp_bind']
      refine Sem.wp_mono _ Γ _ (fun f p' s' hf => ?_) (fun _ _ _ e => e) _ _ h
      cases f with
      | next => exact ih p' s' hf
      | cont => simpa using hf
      | brk => simpa using hf
      | ret v => simpa using hf
  exact key l1 p s (h Γ p hΓ)
end
section
theorem ints_of_mem : ∀ (l : List Value), (∀ v ∈ l, ∃ k t, v = Value.int k t) → ∃ ms, IntsAre l ms
  | [], _ => ⟨[], .nil⟩
  | v :: l, h => by
    obtain ⟨k, t, rfl⟩ := h v (.head _)
    obtain ⟨ms, hm⟩ := ints_of_mem l fun w hw => h w (.tail _ hw)
    exact ⟨k :: ms, .cons k t hm⟩
theorem slice_ints {vs : List Value} {xs : List Int} (hI : IntsAre vs xs) (lo hi st : Option Int) : ∃ ms, IntsAre (slicePick vs.toArray lo hi st).toList ms := by
  refine ints_of_mem _ fun v hv => ?_
  unfold slicePick at hv
  rw [List.toList_toArray] at hv
  obtain ⟨a, _, ha⟩ := List.mem_filterMap.mp hv
  obtain ⟨n, t, rfl, _⟩ := ints_at hI ha
  exact ⟨n, t, rfl⟩
section
variable {prog : Program} {w : World} {A : Around} {E : Value → Shared → Prop} {s : Shared} {h₀ : Heap} {L l : Addr} {m : Str → Option Value} {news : Led}
theorem m_slice3 {Q : Value → Shared → Prop} {vl vu vk : Value} {lo hi st : Option Int} {ops : List Value} {vs : List Value} {xs : List Int} {value slice : Expr} (F : Fr h₀ L s.heap m) (N : News h₀ L s.heap news) (hl : s.heap.IsList l vs.toArray) (pl : IsPart vl lo) (pu : IsPart vu hi) (pk : IsPart vk st) (h0 : st ≠ some 0) (hI : IntsAre vs xs) (hx : xs.length ≤ 63)
    (h : ∀ D h' (zs : List Value) (ms : List Int), IntsAre zs ms → ms.length ≤ 63 → Fr h₀ L h' m → News h₀ L h' ((D, listOf zs.toArray 0) :: news) → (∀ p ∈ news, p.1 < D) → Q (.ref D) { s with heap := h' })
    (hs : subscripted slice false (.ref l) (.ref s.heap.objs.size) = operate ops (getItem (.ref l) (.ref s.heap.objs.size))) (ht : ∀ r, letTemporaryGo value (.ref l) r = pure ()) :
    wpAny (model prog w) A (subscriptTail value slice (.ref l) (.ref s.heap.objs.size)) Q E { s with heap := s.heap.push { cls := .type "slice", data := .fields #[vl, vu, vk] } } := by
  obtain ⟨ms, hm⟩ := slice_ints hI lo hi st
  have hz : vs.toArray.size ≤ sizeLine := size_le hI hx (by decide)
  have hml : ms.length ≤ 63 := by
    have q := slicePick_size_le vs.toArray lo hi st
    have e := IntsAre.length hm
    have e2 := IntsAre.length hI
    have e1 : (slicePick vs.toArray lo hi st).toList.length = (slicePick vs.toArray lo hi st).size := Array.length_toList
    have e3 : vs.toArray.size = vs.length := List.size_toArray
    omega
  exact kmk_slice3_lit F N hl pl pu pk h0 rfl (fun D h' F' N' l1 => h D h' _ ms hm hml F' N' l1) hs ht hz
end
theorem fm128 (x : Int) : 0 ≤ x.fmod 128 ∧ x.fmod 128 < 128 := by rw [Int.fmod_eq_emod_of_nonneg _ (by decide)]; omega
theorem fm8 (x : Int) : 0 ≤ x.fmod 8 ∧ x.fmod 8 < 8 := by rw [Int.fmod_eq_emod_of_nonneg _ (by decide)]; omega
theorem item_ring {x : Int} (h : 0 ≤ x ∧ x < 8) : Txt.item (Str.ofString "ab \"\\\n#\t") x = sg (ringL.getD x.toNat 0) := by
  have key : ∀ k : Fin 8, Txt.item (Str.ofString "ab \"\\\n#\t") (k.1 : Int) = sg (ringL.getD k.1 0) := by decide +kernel
  have := key ⟨x.toNat, by omega⟩
  rw [← this]
  congr 1
  show x = ((x.toNat : Nat) : Int)
  omega
theorem ring_pair (x : Int) : ∃ p, p ∈ zoL ∧ Txt.item (Str.ofString "ab \"\\\n#\t") (x.fmod 8) = sg p.1 ∧ Txt.item (Str.ofString "ab \"\\\n#\t") ((x.fmod 8 + 3).fmod 8) = sg p.2 := by
  have h1 := fm8 x
  have h2 := fm8 (x.fmod 8 + 3)
  (refine ex1 (show ∃ n : Nat, x.fmod 8 = n from ⟨_, (Int.toNat_of_nonneg h1.1).symm⟩) ?_; intro n hn)
  rw [hn] at h1 h2 ⊢
  have hn8 : n < 8 := Int.ofNat_lt.mp h1.2
  have e : (((n : Int) + 3).fmod 8).toNat = (n + 3) % 8 := (show ∀ n : Nat, n < 8 → (((n : Int) + 3).fmod 8).toNat = (n + 3) % 8 by decide) n hn8
  refine ⟨(ringL.getD n 0, ringL.getD ((n + 3) % 8) 0), ?_, item_ring h1, by rw [item_ring h2, e]⟩
  exact List.mem_map.mpr ⟨n, List.mem_range.mpr hn8, rfl⟩
end
section
/-- no address of the one list stands in the other -/
def AptA (a b : List Addr) : Prop := ∀ x ∈ a, ∀ y ∈ b, @Ne Nat x y
theorem aptA_of {a b : Led} (h : Apart a b) : AptA (a.map (·.1)) (b.map (·.1)) := by
  intro x hx y hy
  obtain ⟨p, hp, rfl⟩ := List.mem_map.mp hx
  obtain ⟨q, hq, rfl⟩ := List.mem_map.mp hy
  exact h p hp q hq
theorem AptA.mono {a b a' b' : List Addr} (h : AptA a b) (ha : ∀ x ∈ a', x ∈ a) (hb : ∀ x ∈ b', x ∈ b) : AptA a' b' := fun x hx y hy => h x (ha x hx) y (hb y hy)
end
section
/-- what a word leaves behind in the text -/
def sk (a : Nat) : List Nat := if a / 64 % 2 = 1 then [] else [10]
theorem reads_word (z o a : Nat) (rest : List Nat) : Reads (encWord z o a ++ rest) (wordL z o a) (sk a ++ rest) := by
  unfold encWord sk
  split
  · rename_i h
    have e : (wordL z o a).flatMap (fun c => [92, c]) ++ [10] ++ rest = 92 :: z :: ((digL z o a 6).flatMap (fun c => [92, c]) ++ 10 :: rest) := by
      rw [wordL, List.flatMap_cons]; simp
    rw [e]
    exact Reads.bare z (digL z o a 6) rest
  · have e : 34 :: (wordL z o a).flatMap encQ ++ [34, 10] ++ rest = 34 :: ((wordL z o a).flatMap encQ ++ 34 :: (10 :: rest)) := by simp
    show Reads (34 :: (wordL z o a).flatMap encQ ++ [34, 10] ++ rest) _ _
    rw [e]
    exact Reads.quot _ _
theorem reads_sk {a : Nat} {rs wd r : List Nat} (h : Reads rs wd r) : Reads (sk a ++ rs) wd r := by
  unfold sk; split
  · exact h
  · exact .skip h
theorem sk_len (a : Nat) : (sk a).length ≤ 1 := by unfold sk; split <;> simp
theorem zo_lt : ∀ p ∈ zoL, p.1 < 0x110000 ∧ p.2 < 0x110000 := by decide +kernel
theorem dig_lt {z o n i : Nat} (hz : z < 0x110000) (ho : o < 0x110000) : ∀ c ∈ digL z o n i, c < 0x110000 := by
  induction i with
  | zero => exact fun _ h => nomatch h
  | succ i ih =>
    intro c h
    rcases List.mem_append.mp h with h | h
    · exact ih c h
    · rw [List.mem_singleton.mp h]; split
      · exact ho
      · exact hz
theorem word_ok {z o n : Nat} (h : (z, o) ∈ zoL) (_ : n < 128) : PyData.strOk (strL (wordL z o n)) = true := by
  have hz := zo_lt _ h
  show (wordL z o n).toArray.all _ = true
  rw [List.all_toArray, List.all_eq_true]
  intro c hc
  rcases List.mem_cons.mp hc with e | hc
  · exact decide_eq_true (e ▸ hz.1)
  · exact decide_eq_true (dig_lt hz.1 hz.2 c hc)
theorem aptA_cons {x : Addr} {a b : List Addr} (h1 : AptA [x] b) (h2 : AptA a b) : AptA (x :: a) b := fun y hy q hq => by
  rcases List.mem_cons.mp hy with rfl | hy
  · exact h1 y (.head _) q hq
  · exact h2 y hy q hq
end
section
/-- a word's seven bits, the highest first -/
def bitsW (a : Nat) : List Bool := [false, a / 32 % 2 == 1, a / 16 % 2 == 1, a / 8 % 2 == 1, a / 4 % 2 == 1, a / 2 % 2 == 1, a % 2 == 1]
theorem word_bw (z o a : Nat) : wordL z o a = bw z o (bitsW a) := by
  simp only [wordL, digL, bitsW, bw, List.nil_append, List.cons_append, List.map_cons, List.map_nil, beq_iff_eq, Nat.reduceSub, Nat.reducePow, Nat.div_one, Bool.false_eq_true, if_false]
theorem bitsW_len (a : Nat) : (bitsW a).length = 7 := rfl
/-- a word's figures, the last first -/
def figs (bs : List Bool) : List Int := (bs.map fun b => if b then (1 : Int) else 0).reverse
theorem fig_bw {z o : Nat} (h : z ≠ o) (bs : List Bool) : figL o (bw z o bs).reverse = figs bs := by
  unfold figL bw figs
  rw [List.map_reverse, List.map_map]
  congr 1
  refine List.map_congr_left fun b _ => ?_
  show (if (if b = true then o else z) = o then (1 : Int) else 0) = _
  cases b
  · simp [h]
  · simp
theorem figs_len (bs : List Bool) : (figs bs).length = bs.length := by rw [figs, List.length_reverse, List.length_map]
theorem figs_01 (bs : List Bool) : ∀ x ∈ figs bs, 0 ≤ x ∧ x ≤ 1 := fun x hx => by
  obtain ⟨b, _, rfl⟩ := List.mem_map.mp (List.mem_reverse.mp hx)
  cases b <;> simp
def wth (bs : List Bool) : Int := (worthL stepsL 0 0 (figs bs)).sum
theorem reads_end (a : Nat) : Reads (sk a) [] [] := by
  unfold sk; split
  · exact .done
  · exact .skip .done
/-- where a one stands -/
def idxFrom : Nat → List Int → List Int
  | _, [] => []
  | k, x :: r => if x = 1 then (k : Int) :: idxFrom (k + 1) r else idxFrom (k + 1) r
def idx1 (fs : List Int) : List Int := idxFrom 0 fs
theorem settle_len0 : ∀ bs ∈ all7, (settle bs).length = 7 := by decide +kernel
theorem settle_len (a : Nat) : (settle (bitsW a)).length = 7 := settle_len0 _ (mem_all7 rfl)
theorem idxFrom_snoc (x : Int) : ∀ (a : List Int) (k : Nat), idxFrom k (a ++ [x]) = idxFrom k a ++ (if x = 1 then [((k + a.length : Nat) : Int)] else [])
  | [], k => by simp only [List.nil_append, idxFrom, List.length_nil, Nat.add_zero]
  | y :: a, k => by
    simp only [List.cons_append, idxFrom, idxFrom_snoc x a (k + 1), List.length_cons]
    rw [show k + 1 + a.length = k + (a.length + 1) by omega]
    by_cases h : y = 1
    · rw [if_pos h, if_pos h, List.cons_append]
    · rw [if_neg h, if_neg h]
theorem idx_take {fs : List Int} {j : Nat} {f : Int} (h : fs[j]? = some f) : idx1 (fs.take (j + 1)) = idx1 (fs.take j) ++ (if f = 1 then [(j : Int)] else []) := by
  obtain ⟨hl, _⟩ := List.getElem?_eq_some_iff.mp h
  have e : fs.take (j + 1) = fs.take j ++ [f] := by rw [List.take_add_one, h]; rfl
  rw [e, idx1, idxFrom_snoc, List.length_take, Nat.min_eq_left (by omega), Nat.zero_add]; rfl
end
section
theorem datAll_ints {news : Led} : ∀ {vs : List Value} {ns : List Int}, IntsAre vs ns → DatAll news vs (ns.map Dat.int)
  | _, _, .nil => .nil
  | _, _, .cons _ _ h => .cons (.int _ _) (datAll_ints h)
theorem dat_ok (ns : List Int) : kqdOk 8 (.list (ns.map Dat.int)) = true := by
  simp [kqdOk]
theorem wth_rng0 : ∀ bs ∈ all7, 0 ≤ wth bs ∧ wth bs < 60 := by decide +kernel
theorem wth_rng (a : Nat) : 0 ≤ wth (bitsW a) ∧ wth (bitsW a) < 60 := wth_rng0 _ (mem_all7 rfl)
theorem places_ok0 : ∀ bs ∈ all7, bs.head? = some false → idx1 (figs (settle bs)) = greedy (wth bs).toNat (wth bs) [] := by decide +kernel
theorem places_ok (a : Nat) : idx1 (figs (settle (bitsW a))) = greedy (wth (bitsW a)).toNat (wth (bitsW a)) [] := places_ok0 _ (mem_all7 rfl) rfl
end
section
/-- a word's figures, packed at eight bits -/
def pk (bs : List Bool) : Int := dv 8 (figs bs)
/-- the second number that stands beside n -/
def pu (n : Int) : Int := (((n.toNat + 1) * 196418 / 317811 : Nat) : Int)
theorem wth_40' : ∀ bs ∈ all7, bs.head? = some false → wth bs < 40 := by decide +kernel
theorem wth_40 (a : Nat) : 0 ≤ wth (bitsW a) ∧ wth (bitsW a) < 40 := ⟨(wth_rng a).1, wth_40' _ (mem_all7 rfl) rfl⟩
theorem pu_of0 : ∀ n ∈ List.range 40, ∀ u ∈ List.range 42, ((u : Int) * (u + n + 1) ≤ (n + 1) ^ 2) → ¬ (((u : Int) + 1) * (u + 1 + n + 1) ≤ (n + 1) ^ 2) → (u : Int) = pu n := by decide +kernel
theorem pu_of {n u : Int} (hn : 0 ≤ n ∧ n < 40) (h0 : 0 ≤ u) (h1 : u ≤ n + 1) (h2 : PairLe u n) (h3 : ¬ PairLe (u + 1) n) : u = pu n := by
  have := pu_of0 n.toNat (List.mem_range.mpr (by omega)) u.toNat (List.mem_range.mpr (by omega))
  rw [show ((n.toNat : Nat) : Int) = n by omega, show ((u.toNat : Nat) : Int) = u by omega] at this
  exact this h2 h3
theorem pk_rng0 : ∀ bs ∈ all7, 0 ≤ pk bs ∧ pk bs < 2 ^ 56 := by decide +kernel
theorem pk_rng (a : Nat) : 0 ≤ pk (bitsW a) ∧ pk (bitsW a) < 2 ^ 56 := pk_rng0 _ (mem_all7 rfl)
theorem digs_rng {x : Nat} {ns : List Int} (h : DigsOf 8 x ns) : ∀ d ∈ ns, 0 ≤ d ∧ d < 256 := fun d hd => by
  obtain ⟨i, hi, rfl⟩ := List.mem_iff_getElem.mp hd
  have h1 := h.2 i
  rw [List.getD_eq_getElem?_getD, List.getElem?_eq_getElem hi, Option.getD_some] at h1
  rw [h1]
  have := Nat.mod_lt (x / 2 ^ (8 * i)) (show 2 ^ 8 > 0 by decide)
  omega
theorem wth_pu0 : ∀ bs ∈ all7, bs.head? = some false → 0 ≤ pu (wth bs) ∧ pu (wth bs) < 40 := by decide +kernel
theorem wth_pu (a : Nat) : 0 ≤ pu (wth (bitsW a)) ∧ pu (wth (bitsW a)) < 40 := wth_pu0 _ (mem_all7 rfl) rfl
/-- how often each of the first n numbers stands in a list -/
def cntZ (gs : List Int) (n : Nat) : List Int := (List.range n).map fun (k : Nat) => ((gs.count (k : Int) : Nat) : Int)
theorem cntZ_succ (gs : List Int) (n : Nat) : cntZ gs (n + 1) = cntZ gs n ++ [((gs.count (n : Int) : Nat) : Int)] := by
  unfold cntZ; rw [List.range_succ, List.map_append]; rfl
theorem cntZ_len (gs : List Int) (n : Nat) : (cntZ gs n).length = n := by unfold cntZ; simp
theorem tab_grown {P : Addr} {qual : Str} {a b : Int} {tab led : Led} {h₀ h : Heap} {L : Addr} (ht : Tab P qual a b tab) (N : News h₀ L h led) (hs : ∀ p ∈ tab, p ∈ led) : GrownAt P h := by
  rcases ht with rfl | ⟨c', oc, rfl, _, _⟩
  · exact GrownAt.of N (hs _ (.head _))
  · exact GrownAt.of N (hs _ (.head _))
end
section
/-- the steps' row, without an end -/
def fibS : Nat → Int
  | 0 => 1
  | 1 => 2
  | n + 2 => fibS (n + 1) + fibS n
def wsum : Nat → List Int → Int
  | _, [] => 0
  | s, g :: r => g * fibS s + wsum (s + 1) r
theorem steps_fib : ∀ i ∈ List.range 27, stepsL.getD i 0 = fibS i := by decide +kernel
theorem worthL_wsum (sh : Nat) : ∀ (gs : List Int) (k : Nat), k + sh + gs.length ≤ 27 → (worthL stepsL sh k gs).sum = wsum (k + sh) gs
  | [], k, _ => rfl
  | g :: r, k, h => by
    rw [List.length_cons] at h
    rw [worthL, List.sum_cons, worthL_wsum sh r (k + 1) (by omega), steps_fib (k + sh) (List.mem_range.mpr (by omega)), wsum, show k + 1 + sh = k + sh + 1 by omega]
theorem wsum_rec : ∀ (gs : List Int) (s : Nat), wsum (s + 2) gs = wsum (s + 1) gs + wsum s gs
  | [], _ => rfl
  | g :: r, s => by
    have h := wsum_rec r (s + 1)
    rw [show s + 1 + 2 = s + 2 + 1 by omega] at h
    rw [wsum, wsum, wsum, h, fibS, Int.mul_add]
    omega
def addL : List Int → List Int → List Int
  | [], b => b
  | a, [] => a
  | x :: a, y :: b => (x + y) :: addL a b
def conv : List Int → List Int → List Int
  | [], _ => []
  | f :: r, g => addL (g.map (f * ·)) (0 :: conv r g)
theorem wsum_add : ∀ (a b : List Int) (s : Nat), wsum s (addL a b) = wsum s a + wsum s b
  | [], b, s => by rw [addL, wsum, Int.zero_add]
  | x :: a, [], s => by rw [addL, wsum, wsum, Int.add_zero]; exact fun h => nomatch h
  | x :: a, y :: b, s => by rw [addL, wsum, wsum, wsum, wsum_add a b, Int.add_mul]; omega
theorem dv_add (k : Nat) : ∀ (a b : List Int), dv k (addL a b) = dv k a + dv k b
  | [], b => by rw [addL, dv, Int.zero_add]
  | x :: a, [] => by rw [addL, dv, dv, Int.add_zero]; exact fun h => nomatch h
  | x :: a, y :: b => by rw [addL, dv, dv, dv, dv_add k a b, Int.mul_add]; omega
theorem wsum_scale (c : Int) : ∀ (a : List Int) (s : Nat), wsum s (a.map (c * ·)) = c * wsum s a
  | [], s => by simp [wsum]
  | x :: a, s => by rw [List.map_cons, wsum, wsum, wsum_scale c a, Int.mul_add, Int.mul_assoc]
theorem dv_scale (k : Nat) (c : Int) : ∀ (a : List Int), dv k (a.map (c * ·)) = c * dv k a
  | [] => by simp [dv]
  | x :: a => by rw [List.map_cons, dv, dv, dv_scale k c a, Int.mul_add, Int.mul_left_comm]
theorem dv_conv (k : Nat) : ∀ (f g : List Int), dv k (conv f g) = dv k f * dv k g
  | [], g => by simp [conv, dv]
  | x :: f, g => by rw [conv, dv_add, dv_scale, dv, dv_conv k f g, dv, Int.add_mul, Int.zero_add, Int.mul_assoc]
theorem wsum_at (g : List Int) : ∀ i : Nat, wsum (i + 2) g = fibS (i + 1) * wsum 0 g + fibS i * (wsum 1 g - wsum 0 g)
  | 0 => by
    have h : wsum 2 g = wsum 1 g + wsum 0 g := wsum_rec g 0
    show wsum 2 g = 2 * wsum 0 g + 1 * (wsum 1 g - wsum 0 g)
    omega
  | 1 => by
    have h : wsum 2 g = wsum 1 g + wsum 0 g := wsum_rec g 0
    have h' : wsum 3 g = wsum 2 g + wsum 1 g := wsum_rec g 1
    show wsum 3 g = 3 * wsum 0 g + 2 * (wsum 1 g - wsum 0 g)
    omega
  | i + 2 => by
    rw [wsum_rec, wsum_at g (i + 1), wsum_at g i, show fibS (i + 2 + 1) = fibS (i + 2) + fibS (i + 1) from rfl, show fibS (i + 2) = fibS (i + 1) + fibS i from rfl]
    simp only [Int.add_mul]
    omega
theorem wsum_conv (g : List Int) : ∀ (f : List Int) (s : Nat), wsum (s + 2) (conv f g) = wsum 0 g * wsum (s + 1) f + (wsum 1 g - wsum 0 g) * wsum s f
  | [], s => by simp [conv, wsum]
  | x :: f, s => by
    rw [conv, wsum_add, wsum_scale, wsum, wsum_at, show s + 2 + 1 = s + 1 + 2 by omega, wsum_conv g f (s + 1), wsum, wsum]
    generalize wsum 0 g = a
    generalize wsum 1 g - a = b
    generalize wsum (s + 1 + 1) f = c
    generalize wsum (s + 1) f = d
    simp only [Int.mul_add, Int.zero_mul, Int.zero_add]
    rw [Int.mul_left_comm a x, Int.mul_left_comm b x, Int.mul_comm a (fibS _), Int.mul_comm b (fibS _)]
    omega
theorem conv_bnd {M : Int} (hM : 0 ≤ M) (g : List Int) : ∀ f : List Int, (∀ x ∈ f, ∀ y ∈ g, 0 ≤ x * y ∧ x * y ≤ M) → ∀ z ∈ conv f g, 0 ≤ z ∧ z ≤ f.length * M
  | [], _, z, hz => by simp [conv] at hz
  | x :: f, h, z, hz => by
    have ih := conv_bnd hM g f (fun x' hx' => h x' (.tail _ hx'))
    have add : ∀ (a b : List Int), (∀ z ∈ a, 0 ≤ z ∧ z ≤ M) → (∀ z ∈ b, 0 ≤ z ∧ z ≤ f.length * M) → ∀ z ∈ addL a b, 0 ≤ z ∧ z ≤ f.length * M + M := by
      intro a
      induction a with
      | nil => intro b _ hb z hz; rw [addL] at hz; have := hb z hz; omega
      | cons x a iha =>
        intro b ha hb z hz
        have hf : 0 ≤ (f.length : Int) * M := Int.mul_nonneg (by omega) hM
        cases b with
        | nil =>
          rw [addL] at hz
          · have := ha z hz; omega
          · exact fun h => nomatch h
        | cons y b =>
          rw [addL] at hz
          rcases List.mem_cons.mp hz with rfl | hz
          · have h1 := ha x (.head _); have h2 := hb y (.head _); omega
          · exact iha b (fun z hz => ha z (.tail _ hz)) (fun z hz => hb z (.tail _ hz)) z hz
    have hf : 0 ≤ (f.length : Int) * M := Int.mul_nonneg (by omega) hM
    rw [conv] at hz
    have := add _ _ (fun z hz => by
      obtain ⟨y, hy, rfl⟩ := List.mem_map.mp hz
      exact h x (.head _) y hy) (fun z hz => by
      rcases List.mem_cons.mp hz with rfl | hz
      · omega
      · exact ih z hz) z hz
    rw [List.length_cons, show ((f.length + 1 : Nat) : Int) * M = f.length * M + M by rw [Int.natCast_add, Int.add_mul]; simp]
    exact this
theorem dv_zero8 : ∀ a : List Int, (∀ d ∈ a, 0 ≤ d ∧ d < 256) → dv 8 a = 0 → ∀ s, wsum s a = 0
  | [], _, _, _ => rfl
  | x :: a, h, e, s => by
    have h0 := dv_range 8 a (fun d hd => by have := h d (.tail _ hd); omega)
    have hx := h x (.head _)
    rw [dv] at e
    have e1 : dv 8 a = 0 := by have : (2 : Int) ^ 8 = 256 := rfl; rw [this] at e; omega
    have e2 : x = 0 := by rw [e1] at e; omega
    rw [wsum, dv_zero8 a (fun d hd => h d (.tail _ hd)) e1, e2]; omega
theorem wsum_eq8 : ∀ a b : List Int, (∀ d ∈ a, 0 ≤ d ∧ d < 256) → (∀ d ∈ b, 0 ≤ d ∧ d < 256) → dv 8 a = dv 8 b → ∀ s, wsum s a = wsum s b
  | [], b, _, hb, e, s => by rw [dv_zero8 b hb e.symm]; rfl
  | x :: a, [], ha, _, e, s => by rw [dv_zero8 (x :: a) ha e]; rfl
  | x :: a, y :: b, ha, hb, e, s => by
    have hx := ha x (.head _)
    have hy := hb y (.head _)
    rw [dv, dv] at e
    have : (2 : Int) ^ 8 = 256 := rfl
    rw [this] at e
    have e1 : x = y := by omega
    have e2 : dv 8 a = dv 8 b := by omega
    rw [wsum, wsum, e1, wsum_eq8 a b (fun d hd => ha d (.tail _ hd)) (fun d hd => hb d (.tail _ hd)) e2]
theorem digs_dv : ∀ (ns : List Int) (x : Nat), DigsOf 8 x ns → dv 8 ns = (x : Int)
  | [], x, h => by have := h.1; simp at this; subst this; rfl
  | n :: r, x, h => by
    have h0 := h.2 0
    simp only [List.getD_cons_zero, Nat.mul_zero, Nat.pow_zero, Nat.div_one] at h0
    have hr : DigsOf 8 (x / 2 ^ 8) r := by
      refine ⟨?_, fun i => ?_⟩
      · have := h.1
        rw [List.length_cons, Nat.mul_succ, Nat.pow_add] at this
        exact Nat.div_lt_of_lt_mul (by rw [Nat.mul_comm]; exact this)
      · have := h.2 (i + 1)
        rw [List.getD_cons_succ] at this
        rw [this, Nat.mul_succ, Nat.add_comm, Nat.pow_add, Nat.div_div_eq_div_mul]
    rw [dv, digs_dv r _ hr, h0]
    have : (2 : Int) ^ 8 = 256 := rfl
    rw [this]
    omega
theorem digs_wsum {ns cs : List Int} {x : Nat} (h : DigsOf 8 x ns) (hc : ∀ d ∈ cs, 0 ≤ d ∧ d < 256) (e : dv 8 cs = (x : Int)) (s : Nat) : wsum s ns = wsum s cs :=
  wsum_eq8 ns cs (digs_rng h) hc ((digs_dv ns x h).trans e.symm) s
end
section
theorem wth_wsum {bs : List Bool} (h : bs.length ≤ 27) : wth bs = wsum 0 (figs bs) := worthL_wsum 0 _ 0 (by rw [figs_len]; omega)
theorem wth_33' : ∀ bs ∈ all7, bs.head? = some false → wth bs < 33 := by decide +kernel
theorem wth_33 (a : Nat) : 0 ≤ wth (bitsW a) ∧ wth (bitsW a) < 33 := ⟨(wth_rng a).1, wth_33' _ (mem_all7 rfl) rfl⟩
theorem pu_wsum0 : ∀ bs ∈ all7, bs.head? = some false → wsum 1 (figs bs) = wth bs + pu (wth bs) := by decide +kernel
theorem pu_wsum (a : Nat) : wsum 1 (figs (bitsW a)) = wth (bitsW a) + pu (wth (bitsW a)) := pu_wsum0 _ (mem_all7 rfl) rfl
theorem settle_wsum0 : ∀ bs ∈ all7, bs.head? = some false → wsum 0 (figs (settle bs)) = wsum 0 (figs bs) ∧ wsum 1 (figs (settle bs)) = wsum 1 (figs bs) := by decide +kernel
theorem settle_wsum (a : Nat) : wsum 0 (figs (settle (bitsW a))) = wsum 0 (figs (bitsW a)) ∧ wsum 1 (figs (settle (bitsW a))) = wsum 1 (figs (bitsW a)) := settle_wsum0 _ (mem_all7 rfl) rfl
/-- what stands beside n, in plain numbers -/
def pn (n : Nat) : Nat := (n + 1) * 196418 / 317811
def dN (n k : Nat) : Nat := n * k + n * pn k + pn n * k
theorem pn_dN : ∀ n ∈ List.range 33, ∀ k ∈ List.range 33, pn (dN n k) = n * k + pn n * pn k ∧ dN n k < 3000 := by decide +kernel
def zOk (d : Nat) : Bool := (cntZ (greedy d (d : Int) []) 16).all (fun x => 0 ≤ x ∧ x < 2) && (wsum 0 (cntZ (greedy d (d : Int) []) 16) == (d : Int)) && (wsum 1 (cntZ (greedy d (d : Int) []) 16) == (d : Int) + (pn d : Int))
/-- the steps as naturals, and greedy in one pass down the steps -/
def stN (j : Nat) : Nat := (stepsL.getD j 0).toNat
def gN : Nat → Nat → List Int → List Int
  | 0, _, acc => acc
  | j + 1, n, acc => if stN j ≤ n then gN j (n - stN j) ((j : Int) :: acc) else gN j n acc
theorem stN_eq : ∀ j ∈ List.range 27, stepsL.getD j 0 = (stN j : Int) := by decide +kernel
theorem stN_mono : ∀ j ∈ List.range 26, ∀ i ∈ List.range 27, (i ≤ j → stepsL.getD i 0 ≤ stepsL.getD j 0) ∧ (j < i → stepsL.getD (j + 1) 0 ≤ stepsL.getD i 0) := by decide +kernel
theorem stN_dbl : ∀ j ∈ List.range 26, 1 ≤ stN j ∧ stN (j + 1) ≤ stN j + stN j := by decide +kernel
theorem cntLe_of {j : Nat} {n : Int} (hj : j < 26) (h1 : stepsL.getD j 0 ≤ n) (h2 : n < stepsL.getD (j + 1) 0) : cntLe n = j + 1 :=
  cnt_of (ns := stepsL) (Nat.le_of_lt (Nat.succ_lt_succ hj))
    (fun i hi => Int.le_trans ((stN_mono j (List.mem_range.mpr hj) i (List.mem_range.mpr (Nat.lt_trans hi (Nat.succ_lt_succ hj)))).1 (Nat.le_of_lt_succ hi)) h1)
    (fun i hi hl => Int.lt_of_lt_of_le h2 ((stN_mono j (List.mem_range.mpr hj) i (List.mem_range.mpr hl)).2 hi))
theorem greedy_gN (j : Nat) : j < 27 → ∀ (f n : Nat) (acc : List Int), n ≤ f → n < stN j → greedy f (n : Int) acc = gN j n acc := by
  induction j with
  | zero =>
    intro _ f n acc _ hn
    have h0 : n = 0 := Nat.lt_one_iff.1 hn
    rw [h0]
    cases f <;> rfl
  | succ j ih =>
    intro hj f n acc hf hn
    have d := stN_dbl j (List.mem_range.mpr (Nat.lt_of_succ_lt_succ hj))
    rw [gN]
    by_cases h : stN j ≤ n
    · rw [if_pos h]
      cases f with
      | zero => exact absurd (Nat.le_trans d.1 (Nat.le_trans h hf)) (Nat.not_succ_le_zero 0)
      | succ f =>
        have e := stN_eq j (List.mem_range.mpr (Nat.lt_of_succ_lt hj))
        rw [greedy, if_pos (show (0 : Int) < (n : Int) from Int.ofNat_lt.2 (Nat.lt_of_lt_of_le d.1 h)), cntLe_of (Nat.lt_of_succ_lt_succ hj) (e.symm ▸ Int.ofNat_le.2 h) ((stN_eq (j + 1) (List.mem_range.mpr hj)).symm ▸ Int.ofNat_lt.2 hn), show ((j + 1 : Nat) : Int) - 1 = (j : Int) from Int.add_sub_cancel (j : Int) 1, Int.toNat_natCast, e, ← Int.ofNat_sub h]
        exact ih (Nat.lt_of_succ_lt hj) f _ _ (Nat.sub_le_of_le_add (Nat.le_trans hf (Nat.add_le_add_left d.1 f))) (Nat.sub_lt_left_of_lt_add h (Nat.lt_of_lt_of_le hn d.2))
    · rw [if_neg h]
      exact ih (Nat.lt_of_succ_lt hj) f n acc hf (Nat.lt_of_not_le h)
def zOkL (d : Nat) (l : List Int) : Bool := l.all (fun x => 0 ≤ x ∧ x < 2) && (wsum 0 l == (d : Int)) && (wsum 1 l == (d : Int) + (pn d : Int))
theorem z_ok0 : ∀ n ∈ List.range 33, ∀ k ∈ List.range (n + 1), zOkL (dN n k) (cntZ (gN 17 (dN n k) []) 16) = true := by decide +kernel
theorem z_ok1 {n k : Nat} (hn : n < 33) (hk : k ≤ n) : zOk (dN n k) = true := by
  have h := z_ok0 n (List.mem_range.mpr hn) k (List.mem_range.mpr (Nat.lt_succ_of_le hk))
  rw [← greedy_gN 17 (by decide) (dN n k) (dN n k) [] (Nat.le_refl _) (Nat.lt_trans (pn_dN n (List.mem_range.mpr hn) k (List.mem_range.mpr (Nat.lt_of_le_of_lt hk hn))).2 (show 3000 < 4181 by decide))] at h
  exact h
theorem dN_comm (n k : Nat) : dN n k = dN k n := by
  unfold dN; rw [Nat.mul_comm n k, Nat.mul_comm n (pn k), Nat.mul_comm (pn n) k]; omega
theorem z_ok {n k : Nat} (hn : n < 33) (hk : k < 33) : zOk (dN n k) = true := by
  rcases Nat.le_total k n with h | h
  · exact z_ok1 hn h
  · rw [dN_comm]; exact z_ok1 hk h
theorem pn_bnd {a b : Int} (a1 : -121393 ≤ a) (a2 : a ≤ 196418) (b1 : -121393 ≤ b) (b2 : b ≤ 196418) : -(121393 * 196418) ≤ a * b ∧ a * b ≤ 196418 * 196418 := by
  have h1 : 0 ≤ (196418 - a) * (196418 - b) := Int.mul_nonneg (by omega) (by omega)
  have h2 : 0 ≤ (a + 121393) * (b + 121393) := Int.mul_nonneg (by omega) (by omega)
  have h3 : 0 ≤ (196418 - a) * (196418 + b) := Int.mul_nonneg (by omega) (by omega)
  have h4 : 0 ≤ (196418 + a) * (196418 - b) := Int.mul_nonneg (by omega) (by omega)
  simp only [Int.sub_mul, Int.add_mul, Int.mul_sub, Int.mul_add] at h1 h2 h3 h4
  generalize a * b = c at *
  omega
/-- the third number's check: what stands beside n holds for a product too -/
theorem pn_mul {d n : Nat} (hd : d < 3000) (hn : n < 33) : pn (d * n + d * pn n + pn d * n) = d * n + pn d * pn n := by
  have h0 : 317811 * pn d ≤ (d + 1) * 196418 ∧ (d + 1) * 196418 < 317811 * (pn d + 1) := by unfold pn; omega
  have h1 : 317811 * pn n ≤ (n + 1) * 196418 ∧ (n + 1) * 196418 < 317811 * (pn n + 1) := by unfold pn; omega
  have hu : ∀ T U : Nat, 317811 * U ≤ (T + 1) * 196418 → (T + 1) * 196418 < 317811 * (U + 1) → pn T = U := fun T U x y => by unfold pn; omega
  generalize pn d = s at *
  generalize pn n = t at *
  have hp := pn_bnd (a := 317811 * (s : Int) - 196418 * d) (b := 317811 * (t : Int) - 196418 * n) (by omega) (by omega) (by omega) (by omega)
  have he : (317811 * (s : Int) - 196418 * d) * (317811 * (t : Int) - 196418 * n) = 317811 * (317811 * ((s * t : Nat) : Int)) - 317811 * (196418 * ((s * n : Nat) : Int)) - 196418 * (317811 * ((d * t : Nat) : Int)) + 196418 * (196418 * ((d * n : Nat) : Int)) := by
    simp only [Int.natCast_mul, Int.sub_mul, Int.mul_sub, Int.mul_assoc, Int.mul_left_comm (s : Int), Int.mul_left_comm (d : Int)]
    omega
  have hb := Nat.mul_le_mul (Nat.le_of_lt hd) (Nat.le_of_lt hn)
  rw [he] at hp
  generalize s * t = p1 at *
  generalize s * n = p2 at *
  generalize d * t = p3 at *
  generalize d * n = p4 at *
  exact hu _ _ (by omega) (by omega)
end
section
def wN (a : Nat) : Nat := (wth (bitsW a)).toNat
theorem wN_lt (a : Nat) : wN a < 33 := by have := wth_33 a; unfold wN; omega
theorem wth_wN (a : Nat) : wth (bitsW a) = (wN a : Int) := by have := wth_33 a; unfold wN; omega
theorem pu_N (a : Nat) : pu (wN a : Int) = (pn (wN a) : Int) := rfl
def Dof (a b : Nat) : Nat := dN (wN a) (wN b)
def Tof (a b c : Nat) : Nat := Dof a b * wN c + Dof a b * pn (wN c) + pn (Dof a b) * wN c
theorem D_ok (a b : Nat) : pn (Dof a b) = wN a * wN b + pn (wN a) * pn (wN b) ∧ Dof a b < 3000 := pn_dN _ (List.mem_range.mpr (wN_lt a)) _ (List.mem_range.mpr (wN_lt b))
theorem law_D1 (a b : Nat) : wth (bitsW a) * wth (bitsW b) + wth (bitsW a) * pu (wth (bitsW b)) + pu (wth (bitsW a)) * wth (bitsW b) = (Dof a b : Int) := by
  rw [wth_wN, wth_wN, pu_N, pu_N, Dof, dN]; simp only [Int.natCast_add, Int.natCast_mul]
theorem law_D2 (a b : Nat) : wth (bitsW a) * wth (bitsW b) + pu (wth (bitsW a)) * pu (wth (bitsW b)) = (((Dof a b + 1) * 196418 / 317811 : Nat) : Int) := by
  rw [show (Dof a b + 1) * 196418 / 317811 = pn (Dof a b) from rfl, (D_ok a b).1, wth_wN, wth_wN, pu_N, pu_N]; simp only [Int.natCast_add, Int.natCast_mul]
theorem w0 (a : Nat) : wsum 0 (figs (bitsW a)) = (wN a : Int) := by rw [← wth_wsum (by rw [bitsW_len]; decide), wth_wN]
theorem w1 (a : Nat) : wsum 1 (figs (bitsW a)) = (wN a : Int) + (pn (wN a) : Int) := by rw [pu_wsum, wth_wN, pu_N]
theorem toNat_mul {x y : Int} (hx : 0 ≤ x) (hy : 0 ≤ y) : x * y = ((x.toNat * y.toNat : Nat) : Int) := by
  rw [Int.natCast_mul, Int.toNat_of_nonneg hx, Int.toNat_of_nonneg hy]
theorem bnd01 {f g : List Int} (hf : ∀ x ∈ f, 0 ≤ x ∧ x ≤ 1) (hg : ∀ x ∈ g, 0 ≤ x ∧ x ≤ 1) : ∀ z ∈ conv f g, 0 ≤ z ∧ z ≤ f.length := fun z hz => by
  have := conv_bnd (M := 1) (by decide) g f (fun x hx y hy => by
    have h1 := hf x hx
    have h2 := hg y hy
    rcases (by omega : x = 0 ∨ x = 1) with rfl | rfl
    · omega
    · omega) z hz
  omega
theorem bnd1 {M : Nat} {f g : List Int} (hf : ∀ x ∈ f, 0 ≤ x ∧ x ≤ M) (hg : ∀ x ∈ g, 0 ≤ x ∧ x ≤ 1) : ∀ z ∈ conv f g, 0 ≤ z ∧ z ≤ f.length * M := fun z hz =>
  conv_bnd (M := M) (by omega) g f (fun x hx y hy => by
    have h1 := hf x hx
    have h2 := hg y hy
    rcases (by omega : y = 0 ∨ y = 1) with rfl | rfl
    · omega
    · omega) z hz
theorem law_D0 (a b : Nat) (ns : List Int) (h : DigsOf 8 ((pk (bitsW a)).toNat * (pk (bitsW b)).toNat) ns) (hl : ns.length ≤ 14) : (worthL stepsL 2 0 ns).sum = (Dof a b : Int) := by
  have hb := bnd01 (figs_01 (bitsW a)) (figs_01 (bitsW b))
  rw [figs_len, bitsW_len] at hb
  rw [worthL_wsum 2 ns 0 (by omega), Nat.zero_add, digs_wsum h (cs := conv (figs (bitsW a)) (figs (bitsW b))) (fun d hd => by have := hb d hd; omega) ((dv_conv 8 _ _).trans (toNat_mul (pk_rng a).1 (pk_rng b).1)) 2,
    wsum_conv _ _ 0, Nat.zero_add, w1, w0, w1, w0, Dof, dN]
  simp only [Int.natCast_add, Int.natCast_mul, Int.mul_add]
  rw [Int.mul_comm (wN b : Int) (wN a : Int), Int.mul_comm (wN b : Int) (pn (wN a) : Int), show (wN b : Int) + (pn (wN b) : Int) - (wN b : Int) = (pn (wN b) : Int) by omega, Int.mul_comm (pn (wN b) : Int)]
  omega
theorem zOk_of {d : Nat} (h : zOk d = true) : (∀ x ∈ cntZ (greedy d (d : Int) []) 16, 0 ≤ x ∧ x < 2) ∧ wsum 0 (cntZ (greedy d (d : Int) []) 16) = (d : Int) ∧ wsum 1 (cntZ (greedy d (d : Int) []) 16) = (d : Int) + (pn d : Int) := by
  unfold zOk at h
  simp only [Bool.and_eq_true, List.all_eq_true, beq_iff_eq, decide_eq_true_eq] at h
  exact ⟨h.1.1, h.1.2, h.2⟩
theorem z_of (a b : Nat) : (∀ x ∈ cntZ (greedy (Dof a b) (Dof a b : Int) []) 16, 0 ≤ x ∧ x < 2) ∧ wsum 0 (cntZ (greedy (Dof a b) (Dof a b : Int) []) 16) = (Dof a b : Int) ∧ wsum 1 (cntZ (greedy (Dof a b) (Dof a b : Int) []) 16) = (Dof a b : Int) + (pn (Dof a b) : Int) := zOk_of (z_ok (wN_lt a) (wN_lt b))
theorem law_Z01 (a b : Nat) : ∀ d ∈ cntZ (greedy (Dof a b) (Dof a b : Int) []) 16, 0 ≤ d ∧ d < 2 := (z_of a b).1
theorem dvz_rng (a b : Nat) : 0 ≤ dv 8 (cntZ (greedy (Dof a b) (Dof a b : Int) []) 16) ∧ dv 8 (cntZ (greedy (Dof a b) (Dof a b : Int) []) 16) < 2 ^ (8 * 16) := by
  have := dv_range 8 (cntZ (greedy (Dof a b) (Dof a b : Int) []) 16) (fun d hd => by have := law_Z01 a b d hd; omega)
  rw [cntZ_len] at this; exact this
theorem pks_rng (a : Nat) : 0 ≤ pk (settle (bitsW a)) ∧ pk (settle (bitsW a)) < 2 ^ (8 * 7) := by
  have := dv_range 8 (figs (settle (bitsW a))) (fun d hd => by have := figs_01 _ d hd; omega)
  rw [figs_len, settle_len] at this; exact this
theorem law_x1 (a b c : Nat) : dv 8 (cntZ (greedy (Dof a b) (Dof a b : Int) []) 16) * dv 8 (figs (settle (bitsW c))) = ((((dv 8 (cntZ (greedy (Dof a b) (Dof a b : Int) []) 16)).toNat * (pk (settle (bitsW c))).toNat) : Nat) : Int) :=
  toNat_mul (dvz_rng a b).1 (pks_rng c).1
theorem law_x1b (a b c : Nat) : ((dv 8 (cntZ (greedy (Dof a b) (Dof a b : Int) []) 16)).toNat * (pk (settle (bitsW c))).toNat) < 2 ^ (23 * 8) := by
  have h1 := dvz_rng a b
  have h2 := pks_rng c
  generalize dv 8 (cntZ (greedy (Dof a b) (Dof a b : Int) []) 16) = x at *
  generalize pk (settle (bitsW c)) = y at *
  have e1 : x.toNat < 2 ^ (8 * 16) := by omega
  have e2 : y.toNat < 2 ^ (8 * 7) := by omega
  have := Nat.mul_lt_mul'' e1 e2
  rw [← Nat.pow_add] at this
  exact this
theorem ws0 (a : Nat) : wsum 0 (figs (settle (bitsW a))) = (wN a : Int) := by rw [(settle_wsum a).1, w0]
theorem ws1 (a : Nat) : wsum 1 (figs (settle (bitsW a))) = (wN a : Int) + (pn (wN a) : Int) := by rw [(settle_wsum a).2, w1]
theorem tri (n t d s : Int) : n * (d + s) + (n + t - n) * d = d * n + d * t + s * n := by
  rw [Int.mul_add, show n + t - n = t by omega, Int.mul_comm n d, Int.mul_comm t d, Int.mul_comm s n]
  omega
theorem law_T1 (a b c : Nat) (ns : List Int) (h : DigsOf 8 ((dv 8 (cntZ (greedy (Dof a b) (Dof a b : Int) []) 16)).toNat * (pk (settle (bitsW c))).toNat) ns) (hl : ns.length ≤ 23) : (worthL stepsL 2 0 ns).sum = (Tof a b c : Int) := by
  have hb := bnd01 (f := cntZ (greedy (Dof a b) (Dof a b : Int) []) 16) (fun x hx => by have := law_Z01 a b x hx; omega) (figs_01 (settle (bitsW c)))
  rw [cntZ_len] at hb
  rw [worthL_wsum 2 ns 0 (by omega), Nat.zero_add, digs_wsum h (cs := conv (cntZ (greedy (Dof a b) (Dof a b : Int) []) 16) (figs (settle (bitsW c)))) (fun d hd => by have := hb d hd; omega) ((dv_conv 8 _ _).trans (law_x1 a b c)) 2,
    wsum_conv _ _ 0, Nat.zero_add, ws1, ws0, (z_of a b).2.1, (z_of a b).2.2, Tof]
  simp only [Int.natCast_add, Int.natCast_mul]
  exact tri _ _ _ _
theorem law_T2 (a b c : Nat) (ns : List Int) (h : DigsOf 8 ((pk (bitsW a)).toNat * (pk (bitsW b)).toNat * (pk (bitsW c)).toNat) ns) (hl : ns.length ≤ 21) : (worthL stepsL 4 0 ns).sum = (Tof a b c : Int) := by
  have hb := bnd01 (figs_01 (bitsW a)) (figs_01 (bitsW b))
  rw [figs_len, bitsW_len] at hb
  have hb2 := bnd1 (M := 7) hb (figs_01 (bitsW c))
  have hlen : (conv (figs (bitsW a)) (figs (bitsW b))).length ≤ 13 := by
    simp [bitsW, figs, conv, addL]
  have e : dv 8 (conv (conv (figs (bitsW a)) (figs (bitsW b))) (figs (bitsW c))) = (((pk (bitsW a)).toNat * (pk (bitsW b)).toNat * (pk (bitsW c)).toNat : Nat) : Int) := by
    rw [dv_conv, dv_conv, Int.natCast_mul, ← toNat_mul (pk_rng a).1 (pk_rng b).1, Int.toNat_of_nonneg (pk_rng c).1]; rfl
  rw [worthL_wsum 4 ns 0 (by omega), Nat.zero_add, digs_wsum h (fun d hd => by
      have := hb2 d hd
      generalize (conv (figs (bitsW a)) (figs (bitsW b))).length = l at *
      omega) e 4,
    wsum_conv _ _ 2, show 2 + 1 = 1 + 2 from rfl, wsum_conv _ _ 1, wsum_conv _ _ 0]
  have r := wsum_rec (figs (bitsW a)) 0
  simp only [Nat.zero_add, Nat.reduceAdd] at r ⊢
  rw [r, w1, w0, w1, w0, w1, w0, Tof, (D_ok a b).1, Dof, dN]
  generalize wN a = n
  generalize wN b = k
  generalize wN c = l
  generalize pn n = t
  generalize pn k = u
  generalize pn l = v
  simp only [Int.natCast_add, Int.natCast_mul]
  rw [← tri]
  congr 1
  · congr 1
    simp only [Int.mul_add, Int.add_mul, Int.sub_mul, Int.mul_comm (k : Int), Int.mul_comm (u : Int)]
    omega
  · congr 1
    simp only [Int.mul_add, Int.add_mul, Int.sub_mul, Int.mul_comm (k : Int), Int.mul_comm (u : Int)]
    omega
theorem law_R1 (a b c : Nat) : (Dof a b : Int) * wth (bitsW c) + (Dof a b : Int) * pu (wth (bitsW c)) + (((Dof a b + 1) * 196418 / 317811 : Nat) : Int) * wth (bitsW c) = (Tof a b c : Int) := by
  rw [wth_wN, pu_N, Tof, show (Dof a b + 1) * 196418 / 317811 = pn (Dof a b) from rfl]; simp only [Int.natCast_add, Int.natCast_mul]
theorem law_R2 (a b c : Nat) : (Dof a b : Int) * wth (bitsW c) + (((Dof a b + 1) * 196418 / 317811 : Nat) : Int) * pu (wth (bitsW c)) = (((Tof a b c + 1) * 196418 / 317811 : Nat) : Int) := by
  rw [wth_wN, pu_N, show (Tof a b c + 1) * 196418 / 317811 = pn (Tof a b c) from rfl, Tof, pn_mul (D_ok a b).2 (wN_lt c), show (Dof a b + 1) * 196418 / 317811 = pn (Dof a b) from rfl]; simp only [Int.natCast_add, Int.natCast_mul]
theorem law_Tb (a b c : Nat) : Tof a b c < 1000000 := by
  have h1 := (D_ok a b).2
  have h2 := wN_lt c
  have h3 : pn (wN c) ≤ 33 := Nat.div_le_of_le_mul (Nat.le_trans (Nat.mul_le_mul_right 196418 h2) (by decide))
  have h4 : pn (Dof a b) ≤ 3000 := Nat.div_le_of_le_mul (Nat.le_trans (Nat.mul_le_mul_right 196418 h1) (by decide))
  exact Nat.lt_of_le_of_lt (Nat.add_le_add (Nat.add_le_add (Nat.mul_le_mul (Nat.le_of_lt h1) (Nat.le_of_lt h2)) (Nat.mul_le_mul (Nat.le_of_lt h1) h3)) (Nat.mul_le_mul h4 (Nat.le_of_lt h2))) (by decide)
end
section
section
local macro_rules | `(tactic| k_room) => `(tactic| ktr_room)
local macro_rules | `(tactic| walk_at "m e1") => `(tactic| ((case kA | kF | kK => exact rfl); case k1 | k2 | k3 | k4 | kD | kR | kS | k5 => assumption))
local macro_rules | `(tactic| walk_at "m e2") => `(tactic| ((case k6 | k7 => k_is); (case k8 => ktr_room); case k9 => first | exact BindsTo.of_eq rfl | exact binds_K (by k_in) rfl (by k_is) rfl rfl rfl | exact kp_binds (by k_in) fun _ => rfl))
local macro_rules | `(tactic| walk_at "m e3") => `(tactic| ((case c2 | c3 | c4 => exact rfl); k_whole))
local macro_rules | `(tactic| walk_at "m enterC") => `(tactic| k_dflt (first
  | (refine' codeR_def ?k1 ?k2 ?k3 ?k4 ?kD ?kR ?kS ?k5 ?kA ?kF ?kK ?k6 ?k7 ?k8 ?k9 ?kB ?_ ?c2 ?c3 ?c4 ?c5; walk_at "m e1"; walk_at "m e2"; (case c5 => decide); (case kB => exact locs rfl); walk_at "m e3"; intro g' L' h' FG' F' N' B' X' T' RO'; (try dsimp only); (try k_fold))
  | (refine' codeR_defC ?k1 ?k2 ?k3 ?k4 ?kD ?kR ?kS ?k5 ?kA ?kF ?kK ?k6 ?k7 ?k8 ?k9 ?kB ?kN ?_ ?c2 ?c3 ?c4; walk_at "m e1"; walk_at "m e2"; (case kB => exact rfl); (case kN => decide +kernel); walk_at "m e3"; intro g' L' h' tk' cells' FG' F' N' Y' B' X' T' RO' l1; (try k_lt l1); k_cells Y'; (try simp only [List.cons_append, List.nil_append] at N'); (try dsimp only); (try k_fold))))
local macro_rules | `(tactic| walk_at "m enter") => `(tactic| (refine wpAny_call ?_; walk_at "m enterC"))
local macro_rules | `(tactic| walk_at "LeaveR") => `(tactic| ((with_unfolding_all refine' leaveR_ ?k1 ?k2 ?_; case k1 | k2 => k_asm); intro kF kN kA; (try dsimp only)))
local macro_rules | `(tactic| walk_at "eval ListComp") => `(tactic| (k_here; k_dflt (refine gcomp_E (by k_asm) (by decide) (by with_unfolding_all rfl) (by decide) (by rfl) (by decide) ?_)))
local macro_rules | `(tactic| walk_at "exec Assign cons ListComp") => `(tactic| (k_here; k_dflt (refine gcomp_A (by k_asm) (by rfl) (by decide) (by rfl) (by with_unfolding_all rfl) (by decide) (by rfl) (by decide) (by rfl) (by rfl) ?_)))
local macro_rules | `(tactic| walk_at "m g1") => `(tactic| ((case k1 => rfl); case k2 | k3 => k_asm))
local macro_rules | `(tactic| walk_at "m g2") => `(tactic| ((case k5 => first | assumption | size_fits); case k6 | k7 => rfl))
local macro_rules | `(tactic| walk_at "call type:enumerate") => `(tactic| (k_here; k_dflt (first
  | (refine' gsrc_enumB ?k1 ?k2 ?k3 ?k4 ?k5 ?k6 ?k7 ?k8 ?k9 ?_; walk_at "m g1"; (case k4 => assumption); walk_at "m g2"; (case k8 => rfl); (case k9 => decide))
  | (refine' gsrc_enumL ?k1 ?k2 ?k3 ?k4 ?k5 ?k6 ?k7 ?k8 ?k9 ?_; walk_at "m g1"; (case k4 => k_mem); walk_at "m g2"; (case k8 => rfl); (case k9 => decide))); intro gg I J; (try dsimp only)))
local macro_rules | `(tactic| walk_at "pyIter ref") => `(tactic| (k_here; k_dflt (first
  | (refine' gsrc_base ?k1 ?k2 ?k3 ?k4 ?k5 ?k6 ?k7 ?_; walk_at "m g1"; (case k4 => assumption); walk_at "m g2")
  | (refine' gsrc_led ?k1 ?k2 ?k3 ?k4 ?k5 ?k6 ?k7 ?_; walk_at "m g1"; (case k4 => k_mem); walk_at "m g2")
  | (refine' gsrc_range ?k1 ?k2 ?k3 ?k4 ?kd ?kn ?k5 ?k6 ?k7 ?_; walk_at "m g1"; (case k4 => assumption); (case kd => decide); (case kn => first | exact rfl | decide); walk_at "m g2")); intro gg I; (try dsimp only)))
local macro_rules | `(tactic| walk_at "pyIter str") => `(tactic| (k_here; k_dflt (refine' gsrc_str ?k1 ?k2 ?k3 ?k5 ?k6 ?k7 ?_; walk_at "m g1"; walk_at "m g2"); intro gg I; (try dsimp only)))
local macro_rules | `(tactic| walk_at "exec While") => `(tactic| (k_here; refine hold_out ?_))
local macro_rules | `(tactic| walk_at "exec While Compare cons nil") => `(tactic| (k_here; refine hold_out ?_))
local macro_rules | `(tactic| walk_at "exec While Name cons nil") => `(tactic| (k_here; refine hold_out ?_))
local macro_rules | `(tactic| walk_at "eval Name") => `(tactic| (k_here; k_dflt (refine' nameX_L ?k1 ?k2 ?_ ?k3 ?k4 ?k5; (case k1 => k_asm); (case k2 => assumption); (case k3 | k4 => rfl); (case k5 => decide); k_whole)))
local macro_rules | `(tactic| walk_at "m wstep") => `(tactic| (refine' wstep ?kF ?kN ?kJ; case kF | kN => k_asm))
local macro_rules | `(tactic| walk_at "loadName") => `(tactic| (k_here; (with_reducible rename Fr _ _ _ _ => kF); k_dflt (refine' wpAny_loadName_local ?k3 ?k4 (Fr.ns kF) ?k2 ?_; (case k2 => assumption); (case k3 | k4 => rfl); k_whole)))
local macro_rules | `(tactic| walk_at "binaryOp Mult ref int") => `(tactic| (k_here; k_dflt (refine' mul_one ?k1 ?k2 ?k3 ?k4 ?k5 ?_; (case k1 | k2 => k_asm); (case k3 => k_mem); (case k4 | k5 => assumption); k_whole); intro D' h' F' N' l1; (try k_lt l1); (try k_sweep)))
local macro_rules | `(tactic| walk_at "m sub") => `(tactic| ((try dsimp only [List.cons_append, List.nil_append, List.map_cons, List.map_nil]); (repeat' (first | exact sub_nil | (refine sub_cons ?_ ?_; (focus k_mem)) | k_mem)); done))
local macro_rules | `(tactic| walk_at "m neq") => `(tactic| ((try dsimp only); first | assumption | exact Ne.symm (by assumption) | omega))
local macro_rules | `(tactic| k_ne) => `(tactic| (refine neN ?_; walk_at "m neq"))
local macro_rules | `(tactic| walk_at "m apart") => `(tactic| ((try dsimp only [List.cons_append, List.nil_append]); (repeat' (first | exact apart_nil _ | exact neAll_nil | refine apart_push ?_ ?_ | refine neAll_cons ?_ ?_ | walk_at "m neq")); done))
local macro_rules | `(tactic| walk_at "m use") => `(tactic| (
  (case kB | kF | kX | kT => k_asm);
  (case kN => ((rename News _ _ _ _ => N9); exact kst_newsOf N9 (by walk_at "m sub")));
  case kap | kdr => first | assumption | walk_at "m apart"))
local macro_rules | `(tactic| walk_at "m enterX") => `(tactic| (refine wpAny_call ?_; (rename News _ _ _ _ => N9); k_dflt (refine' callR_plain ?k1 ?k2 ?k3 ?k4 ?kD ?kR ?kS ?k5 ?kA ?kF ?kK ?ko ?kd ?kc ?k8 ?k9 ?kB ?_ ?c5 ?c2 ?c3 ?c4; walk_at "m e1"; (case ko => exact (N9 _ (by k_mem)).1); (case kd => exact rfl); (case kc => exact fnCode_rec N9 (by k_mem) (by assumption)); (case k8 => ktr_room); (case k9 => exact BindsTo.of_eq rfl); (case c5 => decide); (case kB => exact locs rfl); walk_at "m e3"; intro g' L' h' FG' F' N' B' X' T' RO'; (try dsimp only); (try k_fold))))
local macro_rules | `(tactic| walk_at "eval Name") => `(tactic| (k_here; kc_free; k_dflt (refine' nameX_F ?k1 ?k2 ?k3 ?k4 ?_ ?k5 ?k6 ?k7 ?k8; (case k2 => rfl); (case k1 => k_asm); (case k3 => k_mem); (case k4 => k_asm); (case k5 | k6 => rfl); (case k7 | k8 => decide); k_whole)))
local macro_rules | `(tactic| walk_at "binaryOp RShift int int") => `(tactic| (k_here; k_dflt (refine' rshift_int ?k1 ?_; (case k1 => assumption); k_whole)))
local macro_rules | `(tactic| walk_at "binaryOp LShift int int") => `(tactic| (k_here; k_dflt (refine' lshift_int ?k1 ?k2 ?_; (case k1 | k2 => assumption); k_whole)))
local macro_rules | `(tactic| walk_at "callWith ref") => `(tactic| (k_here; (rename News _ _ _ _ => N9); k_dflt (refine' callWith_F ?k1 ?_; (case k1 => exact FnAt.of N9 (by k_mem)); k_whole)))
local macro_rules | `(tactic| walk_at "And") => `(tactic| (k_here; (rename News _ _ _ _ => N9); refine ⟨FnAt.of N9 (by k_mem), ?_⟩; (try dsimp only [List.nil_append, List.cons_append])))
local macro_rules | `(tactic| walk_at "m room") => `(tactic| ((try simp only [depth_under_make, depth_under_kw, depth_in1, depth_deeper, depth_caller, units_in1, units_deeper, Around.mark_units, units_caller]); (try dsimp only [ktrTop]); first | assumption | omega))
local macro_rules | `(tactic| walk_at "call builtin:len") => `(tactic| (k_here; k_dflt (refine' m_len ?k1 ?k2 ?k3 ?_; (case k1 => k_asm); (case k2 => k_mem); (case k3 => first | assumption | (simp only [List.size_toArray, List.length_replicate]; omega)); k_whole)))
local macro_rules | `(tactic| walk_at "m b4") => `(tactic| ((case F | N => k_asm); (case U => k_upd); case z => assumption))
local macro_rules | `(tactic| walk_at "call builtin:list.reverse") => `(tactic| (k_here; k_dflt (refine' m_reverse ?F ?N ?U ?z ?_; walk_at "m b4"); intro h' F' N'; (try dsimp only)))
local macro_rules | `(tactic| walk_at "call builtin:list.insert") => `(tactic| (k_here; k_dflt (refine' m_insert0 ?F ?N ?U ?z ?_; walk_at "m b4"); intro h' F' N'; (try dsimp only)))
local macro_rules | `(tactic| walk_at "binaryOp Add str str") => `(tactic| (k_here; k_dflt (refine' m_addS ?k1 ?_; (case k1 => assumption)); intro _ _; (try dsimp only)))
local macro_rules | `(tactic| walk_at "inplaceOp Add str str") => `(tactic| (k_here; k_dflt (refine' m_iaddS ?k1 ?_; (case k1 => assumption)); intro _ _; (try dsimp only)))
theorem wOff_S_steps : True := by
  w_top off
  trivial
theorem steps_spec (w : World) : Spec w (.ref 128) [] 1 8 [] [] (fun r nw => ∃ l vs n, r = .ref l ∧ nw = [(l, listOf (List.toArray vs) n)] ∧ IntsAre vs stepsL) := by
  unfold Spec
  k_fill
  intro p loose mean mg mb dp un gd cn nm g1 g2 mr a ccd cl outer A₀ base h₀ L m rest s Q E B F X N hap hro hdr T hdp hun hret
  walk_at "m enter"
  k_steps
  refine hold_in (While_inv (fun k m' nw => ∃ D vs n, m' (Str.ofString "steps") = some (.ref D) ∧ nw = [(D, listOf (List.toArray vs) n)] ∧ IntsAre vs (stepsL.take (27 - k)) ∧ k ≤ 25) (by k_asm) (by k_asm) (n₀ := 25) ⟨_, _, _, rfl, rfl, .cons _ _ (.cons _ _ .nil), by omega⟩ ?_)
  (rintro k m₁ nw₁ h₁ tk₁ F₁ N₁ hP9; refine ex3 hP9 ?_; clear hP9; intro D vs n hP9; refine an4 hP9 ?_; clear hP9; rintro hm rfl hI hk)
  have hlen := IntsAre.length hI
  have hsz : (List.toArray vs).size = vs.length := by simp
  have hl2 : (stepsL.take (27 - k)).length = 27 - k := by simp [stepsL, List.length_take]; try omega
  k_steps
  · exact WhileStep.intro (n' := k - 1) (by k_asm) (by k_asm) (by omega) ⟨D, _, _, hm, rfl, ints_push hI (steps_step k (by omega) hk), by omega⟩
  · have e : k = 0 := by omega
    subst e
    exact hret _ _ _ _ ⟨_, _, _, rfl, rfl, hI⟩ (by assumption) (by assumption) (by assumption)
theorem wOff_S_bis : True := by
  w_top off
  trivial
theorem bis_spec (w : World) (ls : Addr) (ns : List Int) (vs : List Value) (n1 : Nat) (x : Int) (t : Tok) (hI : IntsAre vs ns) (hlen : ns.length = 27) (hs : ∀ i j, i ≤ j → j < 27 → ns.getD i 0 ≤ ns.getD j 0) :
   Spec w (.ref 23) [.ref ls, .int x t] 1 8 [(ls, listOf vs.toArray n1)] [] (fun r nw => nw = [] ∧ ∃ (lo : Nat) (t : Tok), r = .int lo t ∧ lo ≤ 27 ∧ (∀ i, i < lo → ns.getD i 0 ≤ x) ∧ (∀ i, lo ≤ i → i < 27 → x < ns.getD i 0)) := by
  unfold Spec
  k_fill
  intro p loose mean mg mb dp un gd cn nm g1 g2 mr a ccd cl outer A₀ base h₀ L m rest s Q E B F X N hap hro hdr T hdp hun hret
  walk_at "m enter"
  (rename AtAll _ _ => RO')
  have hL9 := isList_of RO' (List.Mem.head _)
  have hle := IntsAre.length hI
  have hs8 : vs.toArray.size = 27 := by rw [List.size_toArray, hle, hlen]
  k_steps
  refine hold_in (While_inv (fun k m' nw => nw = [] ∧ ∃ (lo hi : Int), (∃ t, m' (Str.ofString "lo") = some (.int lo t)) ∧ (∃ t, m' (Str.ofString "hi") = some (.int hi t)) ∧ (∃ t, m' (Str.ofString "x") = some (.int x t)) ∧ m' (Str.ofString "a") = some (.ref ls) ∧ 0 ≤ lo ∧ lo ≤ hi ∧ hi ≤ 27 ∧ (∀ i : Nat, (i : Int) < lo → ns.getD i 0 ≤ x) ∧ (∀ i : Nat, hi ≤ i → i < 27 → x < ns.getD i 0) ∧ k = (hi - lo).toNat) (by k_asm) (by k_asm) ⟨rfl, 0, ns.length, ⟨_, rfl⟩, ⟨_, rfl⟩, ⟨_, rfl⟩, rfl, by omega, by omega, by omega, by omega, by omega, rfl⟩ ?_)
  (rintro k m₁ nw₁ h₁ tk₁ F₁ N₁ hP9; refine an2 hP9 ?_; clear hP9; rintro rfl hP9; refine ex2 hP9 ?_; clear hP9; intro lo hi hP9; refine an10 hP9 ?_; clear hP9; rintro hQ1 hQ2 hQ3 ha h0 h1 h2 h3 h4 rfl; refine ex1 hQ1 ?_; clear hQ1; intro tl hP9; revert hP9; intro hlo; refine ex1 hQ2 ?_; clear hQ2; intro th hP9; revert hP9; intro hhi; refine ex1 hQ3 ?_; clear hQ3; intro tx hP9; revert hP9; intro hx)
  have hfd : (lo + hi).fdiv 2 = (lo + hi) / 2 := Int.fdiv_eq_ediv_of_nonneg _ (by decide)
  k_steps
  · rw [hfd] at *
    walk_at "m wstep"
    · refine ⟨_, ?_, rfl, lo, _, ⟨_, hlo⟩, ⟨_, rfl⟩, ⟨_, hx⟩, ha, h0, by omega, by omega, h3, fun i hi1 hi2 => ?_, rfl⟩
      · omega
      have h9 := hs ((lo + hi) / 2).toNat i (by omega) hi2
      omega
  · rw [hfd] at *
    walk_at "m wstep"
    · refine ⟨_, ?_, rfl, _, hi, ⟨_, rfl⟩, ⟨_, hhi⟩, ⟨_, hx⟩, ha, by omega, by omega, h2, fun i hi1 => ?_, h4, rfl⟩
      · omega
      have h9 := hs i ((lo + hi) / 2).toNat (by omega) (by omega)
      omega
  · have e : hi = lo := by omega
    subst e
    (refine ex1 (Int.eq_ofNat_of_zero_le h0) ?_; intro k hP9; revert hP9; rintro rfl)
    exact hret _ [] _ _ ⟨rfl, k, _, rfl, by omega, fun i h => h3 i (by omega), fun i h => h4 i (by omega)⟩ (by assumption) (by assumption) (apart_nil _)
theorem wOff_S_worth : True := by
  w_top off
  trivial
theorem worth_spec (w : World) (ls lf : Addr) (ns fs : List Int) (vs vf : List Value) (n1 n2 : Nat) (sh : Nat) (t : Tok) (hI : IntsAre vs ns) (hF : IntsAre vf fs) (hlen : ns.length = 27) (hfl : fs.length + sh ≤ 27) (hb : ∀ x ∈ fs, 0 ≤ x ∧ x < 2^20) :
   Spec w (.ref 160) [.ref ls, .ref lf, .int sh t] 1 8 [(ls, listOf vs.toArray n1), (lf, listOf vf.toArray n2)] [] (fun r nw => nw = [] ∧ ∃ t, r = .int (worthL ns sh 0 fs).sum t) := by
  unfold Spec
  k_fill
  intro p loose mean mg mb dp un gd cn nm g1 g2 mr a ccd cl outer A₀ base h₀ L m rest s Q E B F X N hap hro hdr T hdp hun hret
  walk_at "m enter"
  (rename AtAll _ _ => RO')
  have hL9 := isList_of RO' (List.Mem.head _)
  have hL8 := isList_of RO' (List.Mem.tail _ (List.Mem.head _))
  have hs8 := size_le hF (k := 27) (by omega) (by omega)
  k_steps
  refine gRest_ind (fun i ys nw => nw = _ ∧ IntsAre ys (worthL ns sh 0 (fs.take i))) ⟨rfl, .nil⟩ ?_ ?_
  · (refine postI ?_; intro G9 hG9; rintro i ys _ hi hP9; refine an2 hP9 ?_; clear hP9; rintro rfl hys; refine hG9 _ _ _ ?_; clear hG9 G9; refine postB ?_; intro G9 hG9; rintro C oC D m₂ h tk its E' hP9; refine ex2 hP9 ?_; clear hP9; intro u v hP9; refine an3 hP9 ?_; clear hP9; intro hQ1 hmu hmv; refine ex2 hQ1 ?_; clear hQ1; intro t x hP9; refine an2 hP9 ?_; clear hP9; intro hx huv; refine hG9 _ _ _ _ _ _ _ _ ?_; clear hG9 G9; rintro hNs hits F₁ N₁ ap)
    (refine ex2 (map2 hits) ?_; intro oI oJ hP9; revert hP9; rintro rfl)
    simp only [List.cons_append, List.nil_append] at N₁
    (refine an2 (show u = _ ∧ v = x from by simpa using huv) ?_; rintro rfl rfl)
    (refine ex2 (ints_at hF hx) ?_; intro f tf hP9; refine an2 hP9 ?_; clear hP9; rintro rfl hf)
    have hi2 : i < fs.length := by obtain ⟨h9, _⟩ := List.getElem?_eq_some_iff.mp hf; exact h9
    have hlo : (0:Int) ≤ i + sh ∧ i + sh < 27 := by omega
    have hf2 := hb f (List.mem_of_getElem? hf)
    show wpAny _ _ _ _ _ _
    k_steps
    refine GEnd.intro F₁ N₁ ap trivial ⟨rfl, ?_⟩
    have e : ((i : Int) + (sh : Int)).toNat = 0 + i + sh := by omega
    rw [worthL_take ns sh fs 0 i f hf, ← e]
    exact ints_snoc hys
  · (refine postE ?_; intro G9 hG9; rintro ys _ hP9; refine an2 hP9 ?_; clear hP9; rintro rfl hys; refine hG9 _ _ ?_; clear hG9 G9; rintro D h tk F₁ N₁ ap)
    have e : vf.toArray.size = fs.length := by rw [List.size_toArray]; exact IntsAre.length hF
    rw [e, List.take_length] at hys
    k_steps
    exact hret _ [] _ _ ⟨rfl, _, rfl⟩ (by assumption) (news_rest (by assumption)) (apart_nil _)
theorem wOff_S_times : True := by
  w_top off
  trivial
theorem times_spec (w : World) (ta tb : Addr) (na nb : Nat) (x y u v : Int) (t1 t2 t3 t4 : Tok)
   (hx : 0 ≤ x ∧ x < 2^40) (hy : 0 ≤ y ∧ y < 2^40) (hu : 0 ≤ u ∧ u < 2^40) (hv : 0 ≤ v ∧ v < 2^40) :
   Spec w (.ref 174) [.ref ta, .ref tb] 1 8 [(ta, tupOf [.int x t1, .int y t2] na), (tb, tupOf [.int u t3, .int v t4] nb)] [] (fun r nw => ∃ tr t5 t6 nr, r = .ref tr ∧ nw = [(tr, tupOf [.int (x*u + x*v+y*u) t5, .int (x*u+y*v) t6] nr)]) := by
  unfold Spec
  k_fill
  intro p loose mean mg mb dp un gd cn nm g1 g2 mr a ccd cl outer A₀ base h₀ L m rest s Q E B F X N hap hro hdr T hdp hun hret
  walk_at "m enter"
  (rename AtAll _ _ => RO')
  have hL9 := isTup_of RO' (List.Mem.head _)
  have hL8 := isTup_of RO' (List.Mem.tail _ (List.Mem.head _))
  k_steps
  exact hret _ _ _ _ ⟨_, _, _, _, rfl, rfl⟩ (by assumption) (by assumption) (by assumption)
theorem wOff_S_pair : True := by
  w_top off
  trivial
local macro_rules | `(tactic| walk_at "binaryOp Pow int int") => `(tactic| (k_here; k_dflt (refine' pow_int_small ?kb1 ?kb2 ?kb3 ?_; (case kb1 => omega); (case kb2 => omega); (case kb3 => omega))))
theorem pair_spec (w : World) (n : Int) (t : Tok) (hn : 0 ≤ n ∧ n < 40) :
   Spec w (.ref 167) [.int n t] 1 8 [] [] (fun r nw => ∃ tr t5 t6 nr u, r = .ref tr ∧ nw = [(tr, tupOf [.int n t5, .int u t6] nr)] ∧ 0 ≤ u ∧ u ≤ n + 1 ∧ PairLe u n ∧ ¬ PairLe (u + 1) n) := by
  unfold Spec
  k_fill
  intro p loose mean mg mb dp un gd cn nm g1 g2 mr a ccd cl outer A₀ base h₀ L m rest s Q E B F X N hap hro hdr T hdp hun hret
  walk_at "m enter"
  k_steps
  refine hold_in (While_inv (fun k m' nw => nw = [] ∧ ∃ u tu tn, m' (Str.ofString "t") = some (.int u tu) ∧ m' (Str.ofString "n") = some (.int n tn) ∧ 0 ≤ u ∧ u ≤ n + 1 ∧ PairLe u n ∧ k = (n + 1 - u).toNat) (by k_asm) (by k_asm) ⟨rfl, 0, _, _, rfl, rfl, by omega, by omega, ?_, rfl⟩ ?_)
  · unfold PairLe; rw [Int.zero_mul]; exact Int.pow_nonneg (by omega)
  (rintro k m₁ nw₁ h₁ tk₁ F₁ N₁ hP9; refine an2 hP9 ?_; clear hP9; rintro rfl hP9; refine ex3 hP9 ?_; clear hP9; intro u tu tn hP9; refine an6 hP9 ?_; clear hP9; rintro hu hnn hu0 hu1 hu2 rfl)
  iterate 23 walk1
  split
  · rename_i hc
    have hc2 : PairLe (u + 1) n := pairLe_of rfl (by simpa using hc)
    clear hc
    have hc3 := pairLe_step hn.1 hu0 hu1 hc2
    k_steps
    walk_at "m wstep"
    exact ⟨_, by omega, rfl, _, _, _, rfl, hnn, by omega, by omega, hc2, rfl⟩
  · rename_i hc
    have hc2 : ¬ PairLe (u + 1) n := pairLe_not rfl (by simpa using hc)
    clear hc
    k_steps
    exact hret _ _ _ _ ⟨_, _, _, _, _, rfl, rfl, hu0, hu1, hu2, hc2⟩ (by assumption) (by assumption) (by assumption)
theorem wOff_S_psh : True := by
  w_top off
  trivial
section
theorem psh_spec (w : World) {xL dL pL : Addr} {e1 e2 e3 f3 e4 : Tok} {xS : Addr} {lv : Int} {bl : Tok} {vs : List Value} {v : Value} {n : Nat} (hl : vs.length ≤ 9000) (hord : @LT.lt Nat _ dL xL ∧ @LT.lt Nat _ xL pL) :
   Spec w (.ref 107) [.ref xL, v] 4 20 [] [(xL, instObj 110 dL), (dL, dictOf [{ hash := PyData.keyHash w.params (Str.ofString "lineno"), key := Value.str (Str.ofString "lineno") e1, val := Value.int (lv) bl }, { hash := PyData.keyHash w.params (Str.ofString "instream"), key := Value.str (Str.ofString "instream") e2, val := Value.ref xS }, { hash := PyData.keyHash w.params (Str.ofString "whitespace"), key := Value.str (Str.ofString "whitespace") e3, val := Value.str (Str.ofString "\n\t\r ") f3 }, { hash := PyData.keyHash w.params (Str.ofString "pushback"), key := Value.str (Str.ofString "pushback") e4, val := Value.ref pL }] 4), (pL, listOf (List.toArray vs) n)] (fun r nw => r = .none ∧ ∃ n', nw = [(xL, instObj 110 dL), (dL, dictOf [{ hash := PyData.keyHash w.params (Str.ofString "lineno"), key := Value.str (Str.ofString "lineno") e1, val := Value.int (lv) bl }, { hash := PyData.keyHash w.params (Str.ofString "instream"), key := Value.str (Str.ofString "instream") e2, val := Value.ref xS }, { hash := PyData.keyHash w.params (Str.ofString "whitespace"), key := Value.str (Str.ofString "whitespace") e3, val := Value.str (Str.ofString "\n\t\r ") f3 }, { hash := PyData.keyHash w.params (Str.ofString "pushback"), key := Value.str (Str.ofString "pushback") e4, val := Value.ref pL }] 4), (pL, listOf ((List.toArray vs).push v) n')]) := by
  unfold Spec
  k_fill
  intro p loose mean mg mb dp un gd cn nm g1 g2 mr a ccd cl outer A₀ base h₀ L m rest s Q E B F X N hap hro hdr T hdp hun hret
  walk_at "m enter"
  k_steps
  exact hret _ _ _ _ ⟨rfl, _, rfl⟩ (by assumption) (by assumption) (by assumption)
end
theorem wOff_S_giv : True := by
  w_top off
  trivial
section
local macro_rules | `(tactic| walk_at "truthy ref") => `(tactic| (k_here; (with_reducible show wpAny _ _ (truthy (Value.ref _)) _ _ _); k_dflt (refine' m_truthyNE ?N ?m ?z ?_; (case N => k_asm); (case m => k_mem); (case z => assumption); k_whole)))
local macro_rules | `(tactic| walk_at "call builtin:list.pop") => `(tactic| (k_here; k_dflt (refine' m_popS ?F ?N ?z ?U ?_; (case F => k_asm); (case N => k_asm); (case z => assumption); (case U => k_upd)); intro h' F' N'; (try dsimp only)))
theorem giv_spec (w : World) {qual : Str} {params : Arguments} {body : List Stmt} {scope : Scope} {pos : Pos} {doc pm ct : Value} {c D C f : Addr} {oc oC : Obj} {tx : Tok}
    (hst : stmtOf (Str.ofString "_law_stream") 2 = .FunctionDef (Str.ofString "give") params body [] none [] scope none (Str.ofString "give") pos)
    (hoc : FnCode oc qual) (hoC : oC.data = .cell (some (.ref D))) (hne : @Ne Nat f D ∧ @Ne Nat c D ∧ @Ne Nat C D) (vs : List Value) (rs : List Nat) (n : Nat) (hv : StrsAre vs (rs.reverse.map sg)) (hl : rs.length ≤ 1000) :
    Spec w (.ref f) [.int 1 tx] 2 8 [] [(f, fnMade (Str.ofString "give") qual params body scope [(Str.ofString "signs", C)] doc pm c ct), (c, oc), (D, listOf vs.toArray n), (C, oC)]
      (fun r nw => ∃ vs' n' t', nw = [(f, fnMade (Str.ofString "give") qual params body scope [(Str.ofString "signs", C)] doc pm c ct), (c, oc), (D, listOf (List.toArray vs') n'), (C, oC)] ∧ StrsAre vs' (rs.tail.reverse.map sg) ∧ r = .str (strL (rs.take 1)) t') := by
  change Stmt.FunctionDef _ _ _ _ _ _ _ _ _ _ = _ at hst
  cases hst
  have hvl := strs_length hv
  rw [List.length_map, List.length_reverse] at hvl
  rcases rs with _ | ⟨a0, rs⟩
  · cases hv
    unfold Spec
    k_fill
    intro p loose mean mg mb dp un gd cn nm g1 g2 mr a ccd cl outer A₀ base h₀ L₀ m rest s Q E B F X N hap hro hdr T hdp hun hret
    walk_at "m enterX"
    k_steps
    exact hret _ _ _ _ ⟨[], _, _, rfl, .nil, by rw [show strL (([] : List Nat).take 1) = Str.ofString "" from (by decide +kernel)]⟩ (by assumption) (by assumption) (by assumption)
  have hv2 : ∃ vs' t', vs = vs' ++ [.str (sg a0) t'] ∧ StrsAre vs' (rs.reverse.map sg) := by
    rw [List.reverse_cons, List.map_append] at hv
    exact strs_unsnoc hv
  (refine ex2 hv2 ?_; clear hv2; intro vs t0 hP9; refine an2 hP9 ?_; clear hP9; rintro rfl hvt)
  have hvl2 : vs.length ≤ 9000 := by
    rw [List.length_append] at hvl; simp only [List.length_cons, List.length_nil] at hvl hl; omega
  unfold Spec
  k_fill
  intro p loose mean mg mb dp un gd cn nm g1 g2 mr a ccd cl outer A₀ base h₀ L₀ m rest s Q E B F X N hap hro hdr T hdp hun hret
  walk_at "m enterX"
  k_steps
  exact hret _ _ _ _ ⟨vs, _, _, rfl, hvt, rfl⟩ (by assumption) (by assumption) (by assumption)
end
theorem wOff_S_gta : True := by
  w_top off
  trivial
section
local macro_rules | `(tactic| walk_at "m none") => `(tactic| skip)
section
local macro_rules | `(tactic| walk_at "truthy ref") => `(tactic| (k_here; (with_reducible show wpAny _ _ (truthy (Value.ref _)) _ _ _); k_dflt (refine' m_truthyC ?N ?m ?z ?_; (case N => k_asm); (case m => k_mem); (case z => assumption); k_whole)))
local macro_rules | `(tactic| walk_at "call builtin:list.pop") => `(tactic| (k_here; k_dflt (refine' m_pop0 ?F ?N ?z ?U ?_; (case F => k_asm); (case N => k_asm); (case z => assumption); (case U => k_upd)); intro h' F' N'; (try dsimp only)))
theorem gta_spec (w : World) {xL dL pL : Addr} {e1 e2 e3 f3 e4 : Tok} {xS : Addr} {lv : Int} {bl : Tok} {vs : List Value} {v : Value} {n : Nat} (hl : vs.length ≤ 9000) (hord : @LT.lt Nat _ dL xL ∧ @LT.lt Nat _ xL pL) :
   Spec w (.ref 100) [.ref xL] 4 20 [] [(xL, instObj 110 dL), (dL, dictOf [{ hash := PyData.keyHash w.params (Str.ofString "lineno"), key := Value.str (Str.ofString "lineno") e1, val := Value.int (lv) bl }, { hash := PyData.keyHash w.params (Str.ofString "instream"), key := Value.str (Str.ofString "instream") e2, val := Value.ref xS }, { hash := PyData.keyHash w.params (Str.ofString "whitespace"), key := Value.str (Str.ofString "whitespace") e3, val := Value.str (Str.ofString "\n\t\r ") f3 }, { hash := PyData.keyHash w.params (Str.ofString "pushback"), key := Value.str (Str.ofString "pushback") e4, val := Value.ref pL }] 4), (pL, listOf (List.toArray (v :: vs)) n)] (fun r nw => r = v ∧ ∃ n', nw = [(xL, instObj 110 dL), (dL, dictOf [{ hash := PyData.keyHash w.params (Str.ofString "lineno"), key := Value.str (Str.ofString "lineno") e1, val := Value.int (lv) bl }, { hash := PyData.keyHash w.params (Str.ofString "instream"), key := Value.str (Str.ofString "instream") e2, val := Value.ref xS }, { hash := PyData.keyHash w.params (Str.ofString "whitespace"), key := Value.str (Str.ofString "whitespace") e3, val := Value.str (Str.ofString "\n\t\r ") f3 }, { hash := PyData.keyHash w.params (Str.ofString "pushback"), key := Value.str (Str.ofString "pushback") e4, val := Value.ref pL }] 4), (pL, listOf (List.toArray vs) n')]) := by
  unfold Spec
  k_fill
  intro p loose mean mg mb dp un gd cn nm g1 g2 mr a ccd cl outer A₀ base h₀ L m rest s Q E B F X N hap hro hdr T hdp hun hret
  walk_at "m enter"
  k_steps
  exact hret _ _ _ _ ⟨rfl, _, rfl⟩ (by assumption) (by assumption) (by assumption)
end
end
theorem wOff_S_str : True := by
  w_top off
  trivial
section
local macro_rules | `(tactic| walk_at "call type:list") => `(tactic| (k_here; k_dflt (refine' m_listStr rfl ?F ?N (by assumption) (by omega) ?_; (case F => k_asm); (case N => k_asm)); intro D' h' tk' ys' n' F' N' hys l1; (try dsimp only); (try k_lt l1)))
theorem str_spec (w : World) (cs : List Nat) (text : Str) (t1 : Tok) {params : Arguments} {body : List Stmt} {scope : Scope} {pos : Pos}
    (hst : stmtOf (Str.ofString "_law_stream") 2 = .FunctionDef (Str.ofString "give") params body [] none [] scope none (Str.ofString "give") pos) (ht : text = strL cs) (hl : cs.length ≤ 100) :
   Spec w (.ref 121) [.str text t1] 5 40 [] [(116, tabObj #[])] (fun r nw => ∃ (vs : List Value) (n : Nat) (xS dS fG c D C pS : Addr) (oc oC : Obj) (doc pm ct : Value) (a1 b1 a2 a3 b3 a4 a5 : Tok), r = .ref xS ∧ nw = [(xS, instObj 110 dS), (dS, dictOf [{ hash := PyData.keyHash w.params (Str.ofString "lineno"), key := Value.str (Str.ofString "lineno") a1, val := Value.int 1 b1 }, { hash := PyData.keyHash w.params (Str.ofString "instream"), key := Value.str (Str.ofString "instream") a2, val := Value.none }, { hash := PyData.keyHash w.params (Str.ofString "whitespace"), key := Value.str (Str.ofString "whitespace") a3, val := Value.str (Str.ofString "\n\t\r ") b3 }, { hash := PyData.keyHash w.params (Str.ofString "pushback"), key := Value.str (Str.ofString "pushback") a4, val := Value.ref pS }, { hash := PyData.keyHash w.params (Str.ofString "read"), key := Value.str (Str.ofString "read") a5, val := Value.ref fG }] 5), (fG, fnMade (Str.ofString "give") (Str.ofString "_law_stream.<locals>.give") params body scope [(Str.ofString "signs", C)] doc pm c ct), (c, oc), (D, listOf (List.toArray (vs)) n), (C, oC), (116, tabObj #[rawInt 176, rawInt 4, .ref c])] ∧ StrsAre vs (cs.reverse.map sg) ∧ FnCode oc (Str.ofString "_law_stream.<locals>.give") ∧ oC.data = .cell (some (.ref D)) ∧ @LT.lt Nat _ 116 C ∧ @LT.lt Nat _ C D ∧ @LT.lt Nat _ D c ∧ @LT.lt Nat _ c fG ∧ @LT.lt Nat _ fG dS ∧ @LT.lt Nat _ dS xS) := by
  change Stmt.FunctionDef _ _ _ _ _ _ _ _ _ _ = _ at hst
  cases hst
  unfold Spec
  k_fill
  intro p loose mean mg mb dp un gd cn nm g1 g2 mr a ccd cl outer A₀ base h₀ L m rest s Q E B F X N hap hro hdr T hdp hun hret
  walk_at "m enter"
  (rename Frag.In _ _ => X')
  have cH := codeHd_of_K (c := 120) (P := 116) X' (by kernel_rfl)
  k_steps
  (rename StrsAre _ _ => hys)
  have hyl := strs_length hys
  rw [List.length_map] at hyl
  have hyl2 : _ ≤ 10000 := Nat.le_trans (Nat.le_of_eq hyl) (by omega)
  k_steps
  (rename News _ _ _ _ => N9)
  simp only [List.append_eq, List.nil_append] at N9
  k_steps
  rename_i g1' L1 h1 tk1 FG1 B1 T1 RO1 l1 o1 d1' D9 h2 tk2 ys n9 l2 h3 oC d2 tk3 h4 fG c9 oc9 vs9 t9 ct9 dc9 h5 tk5 dd1 dd2 l3 l4 h6 x9 d9 h7 l5 l6 g2' L2 h8 B2 X2 T2 tk6 h9 h10 h11 pS h12 l7 h13 F13 N13 tk7 Tc9 kX h14 h15 F15 N15 kF kA
  have hys2 := strs_reverse hys
  rw [← List.map_reverse] at hys2
  exact hret _ _ _ _ (in8 _ _ x9 d9 fG c9 D9 (L1 + 1) (in8 pS oc9 oC _ _ _ _ _ (in5 _ _ _ _ _ ⟨rfl, rfl, hys2, ⟨vs9, t9, dd1, dd2⟩, d2, by omega, by omega, by omega, by omega, by omega, by omega⟩))) (by assumption) (news_pick (by assumption) (by walk_at "m sub")) (apart_pick (by assumption) (by walk_at "m sub"))
end
theorem wOff_S_ell : True := by
  w_top off
  trivial
section
local macro_rules | `(tactic| walk_at "ite") => `(tactic| (k_here; refine hold_out ?_))
local macro_rules | `(tactic| walk_at "call builtin:str.split") => `(tactic| (k_here; k_dflt (refine' m_split3 ?F ?N ?y ?e ?z ?_; (case F => k_asm); (case N => k_asm); (case y => decide +kernel); (case e => assumption); (case z => assumption)); intro D' h' tk' t0' t1' t2' F' N' l1; (try k_lt l1)))
local macro_rules | `(tactic| walk_at "call builtin:str.find") => `(tactic| (k_here; refine hold_out ?_))
theorem ell_spec (w : World) (z o : Nat) (hzo : (z, o) ∈ zoL) (bs : List Bool) (hb : bs.length = 7) (want got : Str) (t1 t2 : Tok) (hw : want = strL [46, 46, 46, z, o, o, 46, 46, 46]) (hg : got = strL (bw z o bs)) :
   Spec w (.ref 72) [.str want t1, .str got t2] 2 40 [] [] (fun r nw => nw = [] ∧ r = .bool (find3 bs).isSome) := by
  unfold Spec
  k_fill
  intro p loose mean mg mb dp un gd cn nm g1 g2 mr a ccd cl outer A₀ base h₀ L m rest s Q E B F X N hap hro hdr T hdp hun hret
  walk_at "m enter"
  k_steps
  refine hold_in ?_
  have hin : (!!(Builtin.Str.occurrences want (Str.ofString "...") 0 want.length 1).isEmpty) = false := by
    rw [hw]; have := ell_in0 (z, o) hzo; rw [wantL] at this; rw [this]; rfl
  rw [hin, if_neg Bool.false_ne_true]
  have hsp : Txt.split want (Str.ofString "...") = [Str.ofString "", strL [z, o, o], Str.ofString ""] := by rw [hw]; exact ell_split1 (z, o) hzo
  have hwl : want.length ≤ 9000 := by rw [hw, strL_length]; exact (show (9 : Nat) ≤ 9000 by decide)
  have hgl : got.length = 7 := by rw [hg, strL_length, bw, List.length_map, hb]
  have hgl2 : got.length ≤ 9000 := by omega
  k_steps
  refine hold_in ?_
  rw [if_pos (by decide +kernel)]
  k_steps
  refine hold_in ?_
  rw [if_neg Bool.false_ne_true]
  k_steps
  refine hold_in ?_
  rw [if_neg Bool.false_ne_true]
  k_steps
  refine hold_in ?_
  rw [if_neg (by rw [decide_eq_true_iff]; omega)]
  k_steps
  have hbs := mem_all7 hb
  have hl3 : (strL [z, o, o]).length = 3 := by rw [strL_length]; rfl
  have hf0 : fnd got (Str.ofString "") 0 7 = 0 := by rw [hg]; exact ell_f0 (z, o) hzo bs hbs
  have hf1 : fnd got (strL [z, o, o]) 0 7 = fnd3 bs := by rw [hg]; exact ell_f1 (z, o) hzo bs hbs
  refine hold_in ?_
  refine m_find4 (a := 0) (b := 7) rfl (by rw [hgl]) (by omega) ?_
  rw [hf0]
  k_steps
  refine hold_in ?_
  rw [if_neg (by decide)]
  k_steps
  refine hold_in ?_
  refine m_find4 (a := 0) (b := 7) rfl (by rw [hgl]) (by omega) ?_
  rw [hf1]
  k_steps
  refine hold_in ?_
  cases hfb : find3 bs with
  | none =>
    rw [if_pos (by rw [fnd3, hfb]; decide)]
    k_steps
    exact hret _ [] _ _ ⟨rfl, by rw [hfb]; rfl⟩ (by assumption) (news_rest (by assumption)) (apart_nil _)
  | some k =>
    have hk4 : k ≤ 4 := by have := ell_b3 bs hbs; rw [hfb] at this; simpa using this
    have hf2 : fnd got (Str.ofString "") (k + 3) 7 = ((k + 3 : Nat) : Int) := by rw [hg]; exact ell_f2 (z, o) hzo bs hbs k (by simp; omega)
    rw [if_neg (by rw [fnd3, hfb, decide_eq_true_iff]; simp)]
    k_steps
    refine hold_in ?_
    refine m_find4 (a := k + 3) (b := 7) (by rw [fnd3, hfb, hl3]; simp) (by rw [hgl]) (by omega) ?_
    rw [hf2]
    k_steps
    refine hold_in ?_
    rw [if_neg (by rw [decide_eq_true_iff]; omega)]
    k_steps
    exact hret _ [] _ _ ⟨rfl, by rw [hfb]; rfl⟩ (by assumption) (news_rest (by assumption)) (apart_nil _)
end
theorem wOff_S_fig : True := by
  w_top off
  trivial
section
local macro_rules | `(tactic| walk_at "ite") => `(tactic| (k_here; refine hold_out ?_))
theorem fig_spec (w : World) (o : Nat) (one word : Str) (cs : List Nat) (t1 t2 : Tok) (ho : one = sg o) (hw : word = strL cs) (hl : cs.length = 7) :
   Spec w (.ref 143) [.str one t1, .str word t2] 1 8 [] [] (fun r nw => ∃ l vs n, r = .ref l ∧ nw = [(l, listOf (List.toArray vs) n)] ∧ IntsAre vs (figL o cs.reverse)) := by
  have h1 : one.cps.size = 1 := by rw [ho]; rfl
  have h2 : word.cps.size = 7 := by rw [hw]; show cs.toArray.size = _; simp [hl]
  unfold Spec
  k_fill
  intro p loose mean mg mb dp un gd cn nm g1 g2 mr a ccd cl outer A₀ base h₀ L m rest s Q E B F X N hap hro hdr T hdp hun hret
  walk_at "m enter"
  k_steps
  have hsz : (strL cs.reverse).cps.size ≤ sizeLine := by rw [sizeLine_eq]; show cs.reverse.toArray.size ≤ _; simp; omega
  have hr : ∀ u, Txt.sliceBy word none none (-1, u) = strL cs.reverse := fun u => by rw [hw, rev_str]
  rw [hr]
  k_steps
  refine gRest_ind (fun i ys nw => nw = _ ∧ IntsAre ys (figL o (cs.reverse.take i))) ⟨rfl, .nil⟩ ?_ ?_
  · (refine postI ?_; intro G9 hG9; rintro i ys _ hi hP9; refine an2 hP9 ?_; clear hP9; rintro rfl hys; refine hG9 _ _ _ ?_; clear hG9 G9; refine postB ?_; intro G9 hG9; rintro C oC D m₂ h tk its E' hP9; refine ex1 hP9 ?_; clear hP9; intro v hP9; refine an2 hP9 ?_; clear hP9; intro hQ1 hmv; refine ex2 hQ1 ?_; clear hQ1; intro c u hP9; refine an2 hP9 ?_; clear hP9; rintro hc rfl; refine hG9 _ _ _ _ _ _ _ _ ?_; clear hG9 G9; rintro hNs hits F₁ N₁ ap)
    (refine ex1 (map1 hits) ?_; intro oI hP9; revert hP9; rintro rfl)
    simp only [List.cons_append, List.nil_append] at N₁
    show wpAny _ _ _ _ _ _
    k_steps
    refine hold_in ?_
    have hci : cs.reverse[i]? = some c := by
      have e : (strL cs.reverse).cps[i]? = cs.reverse[i]? := by show cs.reverse.toArray[i]? = _; simp
      rw [← e]; exact hc
    have htk : ∀ v : Int, (v = if c = o then 1 else 0) → figL o (cs.reverse.take (i + 1)) = figL o (cs.reverse.take i) ++ [v] := fun v hv => by
      rw [List.take_add_one, hci, hv]; simp [figL]
    split
    · rename_i hc1
      have hco : c = o := by
        have := eq_of_beq hc1
        rw [ho] at this
        have e2 := congrArg (fun z : Str => z.cps.toList) this
        simpa [sg] using e2
      clear hc1
      k_steps
      refine GEnd.intro F₁ N₁ ap trivial ⟨rfl, ?_⟩
      rw [htk 1 (by rw [if_pos hco])]
      exact ints_snoc hys
    · rename_i hc1
      have hco : ¬ c = o := fun e => hc1 (by rw [e, ho]; exact beq_self_eq_true _)
      clear hc1
      k_steps
      refine GEnd.intro F₁ N₁ ap trivial ⟨rfl, ?_⟩
      rw [htk 0 (by rw [if_neg hco])]
      exact ints_snoc hys
  · (refine postE ?_; intro G9 hG9; rintro ys _ hP9; refine an2 hP9 ?_; clear hP9; rintro rfl hys; refine hG9 _ _ ?_; clear hG9 G9; rintro D h tk F₁ N₁ ap)
    have hsl : (strL cs.reverse).cps.size = cs.reverse.length := by show cs.reverse.toArray.size = _; simp
    rw [hsl, List.take_length] at hys
    k_steps
    refine hret _ [(D, lst ys)] _ _ ⟨_, ys, _, rfl, rfl, hys⟩ (by assumption) (news_pick (by assumption) ?s1) (apart_pick (by assumption) ?s2)
    case s1 => walk_at "m sub"
    case s2 => walk_at "m sub"
end
theorem wOff_S_word : True := by
  w_top off
  trivial
section
local macro_rules | `(tactic| walk_at "ite") => `(tactic| (k_here; refine hold_out ?_))
local macro_rules | `(tactic| walk_at "binaryOp Pow int int") => `(tactic| (k_here; k_dflt (refine' pow_int_small ?kb1 ?kb2 ?kb3 ?_; (case kb1 => omega); (case kb2 => omega); (case kb3 => omega))))
theorem word_spec (w : World) (z o n : Nat) (zero one : Str) (ni : Int) (t1 t2 t3 : Tok) (hz : zero = sg z) (ho : one = sg o) (hni : ni = n) (hn : n < 128) :
   Spec w (.ref 133) [.str zero t1, .str one t2, .int ni t3] 1 8 [] [] (fun r nw => nw = [] ∧ ∃ t, r = .str (strL (wordL z o n)) t) := by
  have h1 : one.cps.size = 1 := by rw [ho]; rfl
  have h2 : zero.cps.size = 1 := by rw [hz]; rfl
  unfold Spec
  k_fill
  intro p loose mean mg mb dp un gd cn nm g1 g2 mr a ccd cl outer A₀ base h₀ L m rest s Q E B F X N hap hro hdr T hdp hun hret
  walk_at "m enter"
  k_steps
  refine gRest_ind (fun i ys nw => nw = _ ∧ StrsAre ys ((digL z o n i).map sg)) ⟨rfl, .nil⟩ ?_ ?_
  · (refine postI ?_; intro G9 hG9; rintro i ys _ hi hP9; refine an2 hP9 ?_; clear hP9; rintro rfl hys; refine hG9 _ _ _ ?_; clear hG9 G9; refine postB ?_; intro G9 hG9; rintro C oC D m₂ h tk its E' hP9; refine ex1 hP9 ?_; clear hP9; intro v hP9; refine an2 hP9 ?_; clear hP9; intro hQ1 hmv; refine ex1 hQ1 ?_; clear hQ1; intro u hP9; revert hP9; rintro rfl; refine hG9 _ _ _ _ _ _ _ _ ?_; clear hG9 G9; rintro hNs hits F₁ N₁ ap)
    (refine ex1 (map1 hits) ?_; intro oI hP9; revert hP9; rintro rfl)
    simp only [List.cons_append, List.nil_append] at N₁
    have hi6 : i < 6 := hi
    have hk0 : (0 : Int) ≤ 5 + (i : Int) * -1 ∧ 5 + (i : Int) * -1 ≤ 5 := by omega
    have hpw : (2 : Int) ^ (5 + (i : Int) * -1).toNat ≠ 0 := by
      have : (0 : Int) < 2 ^ (5 + (i : Int) * -1).toNat := Int.pow_pos (by decide)
      omega
    show wpAny _ _ _ _ _ _
    k_steps
    refine hold_in ?_
    split
    · rename_i hc1
      rw [bit_cond hni hi6] at hc1
      have hb : n / 2 ^ (5 - i) % 2 = 1 := of_decide_eq_true hc1
      clear hc1
      k_steps
      refine GEnd.intro F₁ N₁ ap trivial ⟨rfl, ?_⟩
      rw [digL, if_pos hb, List.map_append, List.map_singleton, ← ho]
      exact strs_snoc hys
    · rename_i hc1
      rw [bit_cond hni hi6] at hc1
      have hb : ¬ n / 2 ^ (5 - i) % 2 = 1 := fun e => hc1 (decide_eq_true e)
      clear hc1
      k_steps
      refine GEnd.intro F₁ N₁ ap trivial ⟨rfl, ?_⟩
      rw [digL, if_neg hb, List.map_append, List.map_singleton, ← hz]
      exact strs_snoc hys
  · (refine postE ?_; intro G9 hG9; rintro ys _ hP9; refine an2 hP9 ?_; clear hP9; rintro rfl hys; refine hG9 _ _ ?_; clear hG9 G9; rintro D h tk F₁ N₁ ap)
    k_steps
    refine m_joinE N₁ (.head _) hys ⟨?_, ?_⟩ ?_
    · rw [List.length_map, dig_len]; decide
    · intro p hp
      (refine ex1 (List.mem_map.mp hp) ?_; intro c hP9; refine an2 hP9 ?_; clear hP9; rintro _ rfl)
      show (1 : Nat) ≤ 10; decide
    rw [flat_sg]
    intro t9 k9
    have hln : zero.length + (strL (digL z o n 6)).length ≤ 9000 := by rw [hz, sg_length, strL_length, dig_len]; decide
    have hfin : zero ++ strL (digL z o n 6) = strL (wordL z o n) := by rw [hz, sg_append]; rfl
    show wpAny _ _ _ _ _ _
    k_steps
    refine hret _ [] _ _ ⟨rfl, _, by rw [← hfin]⟩ (by assumption) (news_rest (by assumption)) (apart_nil _)
end
section
local macro_rules | `(tactic| walk_at "call ref") => `(tactic| (k_here; refine hold_out ?_))
local macro_rules | `(tactic| walk_at "ite") => `(tactic| (k_here; refine hold_out ?_))
theorem wOff_S_dinn : True := by
  w_top off
  trivial
section
local macro_rules | `(tactic| walk_at "m none") => `(tactic| skip)
section
theorem dinn_spec (w : World) (k : Nat) (hk : 1 ≤ k ∧ k ≤ 32) {qual : Str} {params : Arguments} {body : List Stmt} {scope : Scope} {pos : Pos} {doc pm ct : Value} {c' l cD cI cN f : Addr} {oc oD oI oN : Obj} {t : Tok} {vs : List Value} {ns : List Int} {nn : Nat}
    (hst : stmtOf (Str.ofString "_digits2int") 0 = .FunctionDef (Str.ofString "inner") params body [] none [] scope none (Str.ofString "inner") pos)
    (hoc : FnCode oc qual) (hoD : oD.data = .cell (some (.ref l))) (hoI : oI.data = .cell (some (.ref f))) (hoN : oN.data = .cell (some (.int k t))) (hI : IntsAre vs ns) (hl : ns.length ≤ 25) (hd : ∀ d ∈ ns, 0 ≤ d ∧ d < 2 ^ k) :
    ∀ (len L R : Nat) (Li Ri : Int) (tL tR : Tok), Li = L → Ri = R → R = L + len + 1 → R ≤ ns.length →
    Spec w (.ref f) [.int Li tL, .int Ri tR] (len + 2) (16 * (len + 2)) [(l, listOf vs.toArray nn)] [(f, fnMade (Str.ofString "inner") qual params body scope [(Str.ofString "n", cN), (Str.ofString "inner", cI), (Str.ofString "digits", cD)] doc pm c' ct), (c', oc), (cI, oI), (cN, oN), (cD, oD)]
      (fun r nw => ∃ tr, r = .int (dv k ((ns.take R).drop L)) tr ∧ nw = [(f, fnMade (Str.ofString "inner") qual params body scope [(Str.ofString "n", cN), (Str.ofString "inner", cI), (Str.ofString "digits", cD)] doc pm c' ct), (c', oc), (cI, oI), (cN, oN), (cD, oD)]) := by
  change Stmt.FunctionDef _ _ _ _ _ _ _ _ _ _ = _ at hst
  cases hst
  intro len
  induction len using Nat.strongRecOn with
  | _ len ih =>
  intro L R Li Ri tL tR hLi hRi hR hRn
  have hle := IntsAre.length hI
  unfold Spec
  k_fill
  intro p loose mean mg mb dp un gd cn nm g1 g2 mr a ccd cl outer A₀ base h₀ L₀ m rest s Q E B F X N hap hro hdr T hdp hun hret
  walk_at "m enterX"
  (rename AtAll _ _ => RO')
  have hL9 := isList_of RO' (List.Mem.head _)
  have hs8 := size_le hI (k := 27) (by omega) (by omega)
  k_steps
  refine hold_in ?_
  split
  · rename_i hc
    have hc' : Li + 1 = Ri := by simpa using hc
    clear hc
    have hRL : R = L + 1 := by omega
    have hLR : L < R := hRL ▸ Nat.lt_succ_self L
    have hL0 : (0 : Int) ≤ Li ∧ Li < ns.length := by rw [hLi]; exact ⟨Int.natCast_nonneg _, Int.ofNat_lt.mpr (Nat.lt_of_lt_of_le hLR hRn)⟩
    have hLn : Li.toNat = L := by rw [hLi]; rfl
    have hv : ns.getD Li.toNat 0 = dv k ((ns.take R).drop L) := by
      rw [hRL, take_drop_one ns (Nat.lt_of_lt_of_le hLR hRn), hLn]; simp [dv]
    k_steps
    exact hret _ _ _ _ ⟨_, congrArg (fun z => Value.int z _) hv, rfl⟩ (by assumption) (by assumption) (by assumption)
  · rename_i hc
    have hc' : ¬ Li + 1 = Ri := by simpa using hc
    clear hc
    (refine ex1 (mid_facts hLi hRi hR hc') ?_; intro M hP9; refine an7 hP9 ?_; clear hP9; intro hM hLM hMR hq1 hq2 hd1 hd2)
    have hMn : M ≤ ns.length := Nat.le_trans (Nat.le_of_lt hMR) hRn
    clear hR
    have hrd1 := room_d hdp hq1
    have hrd2 := room_d hdp hq2
    have hru1 := room_u hun hq1
    have hru2 := room_u hun hq2
    have hS : ((Li + Ri).fdiv (2 ^ Int.toNat 1) - Li) * (k : Int) = (((M - L) * k : Nat) : Int) := by
      rw [hM, hLi, Int.natCast_mul, Int.natCast_sub (Nat.le_of_lt hLM)]
    have hS0 : 0 ≤ ((Li + Ri).fdiv (2 ^ Int.toNat 1) - Li) * (k : Int) := by rw [hS]; exact Int.natCast_nonneg _
    have hSn : (((Li + Ri).fdiv (2 ^ Int.toNat 1) - Li) * (k : Int)).toNat = (M - L) * k := by rw [hS]; rfl
    k_steps
    refine hold_in ?_
    refine' Spec.use (rest := []) (ih (R - M - 1) hq2 M R _ _ _ _ hM hRi hd2 hRn) ?kB ?kF ?kX ?kN ?kap ?kro ?kdr ?kT ?kd ?ku ?_
    walk_at "m use"
    case kro => (rename Fr _ _ _ _ => F9); exact atAll_keep F9 RO'
    case kd => walk_at "m room"
    case ku => walk_at "m room"
    (refine postG ?_; intro G9 hG9; rintro r new h1 tk1 hP9; refine ex1 hP9 ?_; clear hP9; intro t5 hP9; refine an2 hP9 ?_; clear hP9; rintro rfl rfl; refine hG9 _ _ _ _ ?_; clear hG9 G9; rintro F1 N1 ap1)
    simp only [List.append_nil] at N1
    dsimp only
    have hr1 := dv_range k ((ns.take R).drop M) fun d h => hd d (List.mem_of_mem_take (List.mem_of_mem_drop h))
    have hUb : (Builtin.Int.intBits (dv k ((ns.take R).drop M)) : Int) + ((Li + Ri).fdiv (2 ^ Int.toNat 1) - Li) * (k : Int) ≤ 2 ^ 27 := by
      have h4 : k * ((ns.take R).drop M).length ≤ 32 * 25 := Nat.mul_le_mul hk.2 (by rw [List.length_drop, List.length_take, Nat.min_eq_left hRn]; exact Nat.le_trans (Nat.sub_le _ _) (Nat.le_trans hRn hl))
      have h3 : (M - L) * k ≤ 25 * 32 := Nat.mul_le_mul (Nat.le_trans (Nat.sub_le _ _) (Nat.le_trans hMn hl)) hk.2
      rw [hS]
      (refine ex1 (show ∃ y : Nat, dv k ((ns.take R).drop M) = y from ⟨_, (Int.toNat_of_nonneg hr1.1).symm⟩) ?_; intro y hP9; revert hP9; intro hy)
      rw [hy] at hr1 ⊢
      have h1 := bits_nat y (k * ((ns.take R).drop M).length) (by have := hr1.2; rw [← Int.ofNat_lt, Int.natCast_pow]; exact this)
      omega
    k_steps
    refine hold_in ?_
    refine' Spec.use (rest := []) (ih (M - L - 1) hq1 L M _ _ _ _ hLi hM hd1 hMn) ?kB ?kF ?kX ?kN ?kap ?kro ?kdr ?kT ?kd ?ku ?_
    walk_at "m use"
    case kro => (rename Fr _ _ _ _ => F9); exact atAll_keep F9 RO'
    case kd => walk_at "m room"
    case ku => walk_at "m room"
    (refine postG ?_; intro G9 hG9; rintro r new h2 tk2 hP9; refine ex1 hP9 ?_; clear hP9; intro t6 hP9; refine an2 hP9 ?_; clear hP9; rintro rfl rfl; refine hG9 _ _ _ _ ?_; clear hG9 G9; rintro F2 N2 ap2)
    simp only [List.append_nil] at N2
    dsimp only
    have hfin : dv k ((ns.take R).drop M) * 2 ^ (((Li + Ri).fdiv (2 ^ Int.toNat 1) - Li) * (k : Int)).toNat + dv k ((ns.take M).drop L) = dv k ((ns.take R).drop L) := by
      rw [hSn, take_drop_split ns (Nat.le_of_lt hLM) (Nat.le_of_lt hMR), dv_append, Int.add_comm, Int.mul_comm, Nat.mul_comm _ k]
      rw [show ((ns.take M).drop L).length = M - L by rw [List.length_drop, List.length_take, Nat.min_eq_left hMn]]
    k_steps
    exact hret _ _ _ _ ⟨_, congrArg (fun z => Value.int z _) hfin, rfl⟩ (by assumption) (by assumption) (by assumption)
end
end
theorem wOff_S_d2i : True := by
  w_top off
  trivial
section
theorem d2i_spec (w : World) (k : Nat) (ki : Int) (l : Addr) (vs : List Value) (ns : List Int) (nn : Nat) (t2 : Tok) (hki : ki = k) (hk : 1 ≤ k ∧ k ≤ 32) (hI : IntsAre vs ns) (hl : ns.length ≤ 25) (hd : ∀ d ∈ ns, 0 ≤ d ∧ d < 2 ^ k) (tab : Led) (htab : Tab 46 (Str.ofString "_digits2int.<locals>.inner") 68 4 tab) :
   Spec w (.ref 51) [.ref l, .int ki t2] 30 500 [(l, listOf vs.toArray nn)] tab (fun r nw => (∃ t, r = .int (dv k ns) t) ∧ Tab 46 (Str.ofString "_digits2int.<locals>.inner") 68 4 nw) := by
  have hle := IntsAre.length hI
  subst hki
  rcases htab with rfl | ⟨c', oc, rfl, hoc, hcP⟩
  · unfold Spec
    k_fill
    intro p loose mean mg mb dp un gd cn nm g1 g2 mr a ccd cl outer A₀ base h₀ L m rest s Q E B F X N hap hro hdr T hdp hun hret
    walk_at "m enter"
    (rename Frag.In _ _ => X')
    (rename AtAll _ _ => RO')
    have hlL := ro_lt (by assumption) RO' (List.Mem.head _)
    dsimp only at hlL
    have hL9 := isList_of RO' (List.Mem.head _)
    have hs8 := size_le hI (k := 27) (by omega) (by omega)
    have cH := codeHd_of_K (c := 50) (P := 46) X' (by kernel_rfl)
    k_steps
    refine hold_in ?_
    split
    · rename_i hc
      have h0 : 0 < ns.length := by simpa using hc
      clear hc
      k_steps
      refine hold_in ?_
      rename_i g L1 h1 tk1 FG B1 T1 l1 o1 o2 o3 d1 d2 d3 f9 c9 oc9 vs9 t9 ct9 dc9 h5 tk3 e1 e2 l4 l5 h6 o6 F6 N6 d6
      have hcode : FnCode oc9 (Str.ofString "_digits2int.<locals>.inner") := ⟨vs9, t9, e1, e2⟩
      refine' Spec.use (rest := [(46, tabObj #[rawInt 68, rawInt 4, .ref c9])]) (dinn_spec w k hk (l := l) (c' := c9) ?hst hcode ?hoD ?hoI ?hoN hI hl hd (ns.length - 1) 0 ns.length 0 _ _ _ rfl ?hR ?hRR (Nat.le_refl _)) ?kB ?kF ?kX ?kN ?kap ?kro ?kdr ?kT ?kd ?ku ?_
      case hst => exact rfl
      case hR => first | rfl | (rw [List.size_toArray, hle])
      case hRR => omega
      walk_at "m use"
      case kro => (rename Fr _ _ _ _ => F9); exact atAll_keep F9 RO'
      case hoD => assumption
      case hoI => assumption
      case hoN => assumption
      case kd => walk_at "m room"
      case ku => walk_at "m room"
      (refine postG ?_; intro G9 hG9; rintro r new h9 tk9 hP9; refine ex1 hP9 ?_; clear hP9; intro t9 hP9; refine an2 hP9 ?_; clear hP9; rintro rfl rfl; refine hG9 _ _ _ _ ?_; clear hG9 G9; rintro F1 N1 ap1)
      simp only [List.cons_append, List.nil_append] at N1
      dsimp only
      have hv : dv k ((ns.take ns.length).drop 0) = dv k ns := by rw [List.take_length, List.drop_zero]
      k_steps
      exact hret _ [(46, tabObj #[rawInt 68, rawInt 4, .ref c9]), (c9, oc9)] _ _ ⟨⟨_, congrArg (fun z => Value.int z _) hv⟩, .inr ⟨c9, oc9, rfl, hcode, neN (by omega)⟩⟩ (by assumption) (news_pick (by assumption) (by walk_at "m sub")) (apart_pick (by assumption) (by walk_at "m sub"))
    · rename_i hc
      have h0 : ns = [] := by
        have : ¬ 0 < ns.length := by simpa using hc
        exact List.eq_nil_of_length_eq_zero (by omega)
      clear hc
      k_steps
      rename_i g L1 h1 tk1 FG B1 T1 l1 o1 o2 o3 d1 d2 d3 f9 c9 oc9 vs9 t9 ct9 dc9 h5 tk3 e1 e2 l4 l5 h6 o6 F6 N6 d6 kF kN kA
      have hcode : FnCode oc9 (Str.ofString "_digits2int.<locals>.inner") := ⟨vs9, t9, e1, e2⟩
      exact hret _ [(46, tabObj #[rawInt 68, rawInt 4, .ref c9]), (c9, oc9)] _ _ ⟨⟨_, by rw [h0]; rfl⟩, .inr ⟨c9, oc9, rfl, hcode, neN (by omega)⟩⟩ (by assumption) (news_pick (by assumption) (by walk_at "m sub")) (apart_pick (by assumption) (by walk_at "m sub"))
  · unfold Spec
    k_fill
    intro p loose mean mg mb dp un gd cn nm g1 g2 mr a ccd cl outer A₀ base h₀ L m rest s Q E B F X N hap hro hdr T hdp hun hret
    walk_at "m enter"
    (rename Frag.In _ _ => X')
    (rename AtAll _ _ => RO')
    have hlL := ro_lt (by assumption) RO' (List.Mem.head _)
    dsimp only at hlL
    have hlc : @Ne Nat l c' := hdr _ (List.Mem.head _) _ (List.Mem.tail _ (List.Mem.head _))
    have hL9 := isList_of RO' (List.Mem.head _)
    have hs8 := size_le hI (k := 27) (by omega) (by omega)
    have cH := codeHd_of_K (c := 50) (P := 46) X' (by kernel_rfl)
    k_steps
    refine hold_in ?_
    split
    · rename_i hc
      have h0 : 0 < ns.length := by simpa using hc
      clear hc
      k_steps
      refine hold_in ?_
      rename_i g L1 h1 tk1 FG B1 T1 l1 o1 o2 o3 d1 d2 d3 f9 ct9 dc9 h5 tk3 l4 h6 o6 F6 N6 d6
      have hcode := hoc
      refine' Spec.use (rest := [(46, tabObj #[rawInt 68, rawInt 4, .ref c'])]) (dinn_spec w k hk (l := l) (c' := c') ?hst hcode ?hoD ?hoI ?hoN hI hl hd (ns.length - 1) 0 ns.length 0 _ _ _ rfl ?hR ?hRR (Nat.le_refl _)) ?kB ?kF ?kX ?kN ?kap ?kro ?kdr ?kT ?kd ?ku ?_
      case hst => exact rfl
      case hR => first | rfl | (rw [List.size_toArray, hle])
      case hRR => omega
      walk_at "m use"
      case kro => (rename Fr _ _ _ _ => F9); exact atAll_keep F9 RO'
      case hoD => assumption
      case hoI => assumption
      case hoN => assumption
      case kd => walk_at "m room"
      case ku => walk_at "m room"
      (refine postG ?_; intro G9 hG9; rintro r new h9 tk9 hP9; refine ex1 hP9 ?_; clear hP9; intro t9 hP9; refine an2 hP9 ?_; clear hP9; rintro rfl rfl; refine hG9 _ _ _ _ ?_; clear hG9 G9; rintro F1 N1 ap1)
      simp only [List.cons_append, List.nil_append] at N1
      dsimp only
      have hv : dv k ((ns.take ns.length).drop 0) = dv k ns := by rw [List.take_length, List.drop_zero]
      k_steps
      exact hret _ [(46, tabObj #[rawInt 68, rawInt 4, .ref c']), (c', oc)] _ _ ⟨⟨_, congrArg (fun z => Value.int z _) hv⟩, .inr ⟨c', oc, rfl, hcode, neN (by omega)⟩⟩ (by assumption) (news_pick (by assumption) (by walk_at "m sub")) (apart_pick (by assumption) (by walk_at "m sub"))
    · rename_i hc
      have h0 : ns = [] := by
        have : ¬ 0 < ns.length := by simpa using hc
        exact List.eq_nil_of_length_eq_zero (by omega)
      clear hc
      k_steps
      rename_i g L1 h1 tk1 FG B1 T1 l1 o1 o2 o3 d1 d2 d3 f9 ct9 dc9 h5 tk3 l4 h6 o6 F6 N6 d6 kF kN kA
      have hcode := hoc
      exact hret _ [(46, tabObj #[rawInt 68, rawInt 4, .ref c']), (c', oc)] _ _ ⟨⟨_, by rw [h0]; rfl⟩, .inr ⟨c', oc, rfl, hcode, neN (by omega)⟩⟩ (by assumption) (news_pick (by assumption) (by walk_at "m sub")) (apart_pick (by assumption) (by walk_at "m sub"))
end
theorem wOff_S_inn : True := by
  w_top off
  trivial
section
theorem inn_spec (w : World) (k : Nat) (hk : 1 ≤ k ∧ k ≤ 32) {qual : Str} {params : Arguments} {body : List Stmt} {scope : Scope} {pos : Pos} {doc pm ct : Value} {c' D cD cI cN f : Addr} {oc oD oI oN : Obj} {t : Tok}
    (hst : stmtOf (Str.ofString "_int2digits") 1 = .FunctionDef (Str.ofString "inner") params body [] none [] scope none (Str.ofString "inner") pos)
    (hoc : FnCode oc qual) (hoD : oD.data = .cell (some (.ref D))) (hoI : oI.data = .cell (some (.ref f))) (hoN : oN.data = .cell (some (.int k t))) (hne : @Ne Nat f D ∧ @Ne Nat c' D ∧ @Ne Nat cI D ∧ @Ne Nat cD D ∧ @Ne Nat cN D) :
    ∀ (len x L R : Nat) (xi Li Ri : Int) (tx tL tR : Tok) (vs : List Value) (ns : List Int) (n : Nat), xi = x → Li = L → Ri = R → R = L + len + 1 → IntsAre vs ns → R ≤ ns.length → ns.length ≤ 1000 → x < 2 ^ (k * (R - L)) →
    Spec w (.ref f) [.int xi tx, .int Li tL, .int Ri tR] (len + 2) (16 * (len + 2)) [] [(f, fnMade (Str.ofString "inner") qual params body scope [(Str.ofString "n", cN), (Str.ofString "inner", cI), (Str.ofString "a_digits", cD)] doc pm c' ct), (c', oc), (D, listOf vs.toArray n), (cI, oI), (cD, oD), (cN, oN)]
      (fun r nw => r = .none ∧ ∃ vs' ns' n', nw = [(f, fnMade (Str.ofString "inner") qual params body scope [(Str.ofString "n", cN), (Str.ofString "inner", cI), (Str.ofString "a_digits", cD)] doc pm c' ct), (c', oc), (D, listOf (List.toArray vs') n'), (cI, oI), (cD, oD), (cN, oN)] ∧ IntsAre vs' ns' ∧ ns'.length = ns.length ∧
        ∀ i, ns'.getD i 0 = if L ≤ i ∧ i < R then ((x / 2 ^ (k * (i - L)) % 2 ^ k : Nat) : Int) else ns.getD i 0) := by
  change Stmt.FunctionDef _ _ _ _ _ _ _ _ _ _ = _ at hst
  cases hst
  intro len
  induction len using Nat.strongRecOn with
  | _ len ih =>
  intro x L R xi Li Ri tx tL tR vs ns n hxi hLi hRi hR hI hRn hn hx
  have hle := IntsAre.length hI
  unfold Spec
  k_fill
  intro p loose mean mg mb dp un gd cn nm g1 g2 mr a ccd cl outer A₀ base h₀ L₀ m rest s Q E B F X N hap hro hdr T hdp hun hret
  walk_at "m enterX"
  k_steps
  refine hold_in ?_
  split
  · rename_i hc
    have hc' : Li + 1 = Ri := by simpa using hc
    clear hc
    have hRL : R = L + 1 := by omega
    have hLR : L < R := hRL ▸ Nat.lt_succ_self L
    have hL0 : (0 : Int) ≤ Li ∧ Li < ns.length := by rw [hLi]; exact ⟨Int.natCast_nonneg _, Int.ofNat_lt.mpr (Nat.lt_of_lt_of_le hLR hRn)⟩
    have hLn : Li.toNat = L := by rw [hLi]; rfl
    have hx1 : x < 2 ^ k := by rw [show k * (R - L) = k by rw [hRL, Nat.add_sub_cancel_left, Nat.mul_one]] at hx; exact hx
    k_steps
    refine hret _ _ _ _ ⟨rfl, _, _, _, rfl, by assumption, by simp, fun i => ?_⟩ (by assumption) (by assumption) (by assumption)
    rw [hLn, hxi, List.getD_eq_getElem?_getD, List.getElem?_set, List.getD_eq_getElem?_getD]
    by_cases hi : L = i
    · subst hi
      have e1 : L < ns.length := Nat.lt_of_lt_of_le hLR hRn
      have e2 : L ≤ L ∧ L < R := ⟨Nat.le_refl _, hLR⟩
      rw [if_pos rfl, if_pos e1, if_pos e2, Nat.sub_self, Nat.mul_zero, Nat.pow_zero, Nat.div_one, Nat.mod_eq_of_lt hx1]
      rfl
    · have e2 : ¬ (L ≤ i ∧ i < R) := fun e => hi (Nat.le_antisymm e.1 (Nat.le_of_lt_succ (show i < L + 1 from hRL ▸ e.2)))
      rw [if_neg hi, if_neg e2]
  · rename_i hc
    have hc' : ¬ Li + 1 = Ri := by simpa using hc
    clear hc
    (refine ex1 (mid_facts hLi hRi hR hc') ?_; intro M hP9; refine an7 hP9 ?_; clear hP9; intro hM hLM hMR hq1 hq2 hd1 hd2)
    have hMn : M ≤ ns.length := Nat.le_trans (Nat.le_of_lt hMR) hRn
    clear hR
    have hrd1 := room_d hdp hq1
    have hrd2 := room_d hdp hq2
    have hru1 := room_u hun hq1
    have hru2 := room_u hun hq2
    have hS : ((Li + Ri).fdiv (2 ^ Int.toNat 1) - Li) * (k : Int) = (((M - L) * k : Nat) : Int) := by
      rw [hM, hLi, Int.natCast_mul, Int.natCast_sub (Nat.le_of_lt hLM)]
    have hS0 : 0 ≤ ((Li + Ri).fdiv (2 ^ Int.toNat 1) - Li) * (k : Int) := by rw [hS]; exact Int.natCast_nonneg _
    have hSn : (((Li + Ri).fdiv (2 ^ Int.toNat 1) - Li) * (k : Int)).toNat = (M - L) * k := by rw [hS]; rfl
    have hU : xi.fdiv (2 ^ (((Li + Ri).fdiv (2 ^ Int.toNat 1) - Li) * (k : Int)).toNat) = ((x / 2 ^ ((M - L) * k) : Nat) : Int) := by rw [hSn, hxi, fdiv_pow]
    have hxS : x / 2 ^ ((M - L) * k) < 2 ^ (k * (R - M)) := by
      rw [Nat.div_lt_iff_lt_mul (two_pow_pos _), ← Nat.pow_add, Nat.mul_comm _ k, ← Nat.mul_add, Nat.sub_add_sub_cancel (Nat.le_of_lt hMR) (Nat.le_of_lt hLM)]; exact hx
    have hUb : (Builtin.Int.intBits (xi.fdiv (2 ^ (((Li + Ri).fdiv (2 ^ Int.toNat 1) - Li) * (k : Int)).toNat)) : Int) + ((Li + Ri).fdiv (2 ^ Int.toNat 1) - Li) * (k : Int) ≤ 2 ^ 27 := by
      rw [hU, hS]
      have h1 := bits_nat _ _ hxS
      have h2 : k * (R - M) ≤ 32 * 1000 := Nat.mul_le_mul hk.2 (Nat.le_trans (Nat.sub_le _ _) (Nat.le_trans hRn hn))
      have h3 : (M - L) * k ≤ 1000 * 32 := Nat.mul_le_mul (Nat.le_trans (Nat.sub_le _ _) (Nat.le_trans hMn hn)) hk.2
      omega
    have hlow : Builtin.bitXor xi (xi.fdiv (2 ^ (((Li + Ri).fdiv (2 ^ Int.toNat 1) - Li) * (k : Int)).toNat) * 2 ^ (((Li + Ri).fdiv (2 ^ Int.toNat 1) - Li) * (k : Int)).toNat) = ((x % 2 ^ ((M - L) * k) : Nat) : Int) := by
      rw [hU, hSn, hxi, xor_is]
    k_steps
    refine hold_in ?_
    refine' Spec.use (rest := []) (ih (M - L - 1) hq1 (x % 2 ^ ((M - L) * k)) L M _ _ _ _ _ _ vs ns n hlow hLi hM hd1 hI hMn hn ?hx2) ?kB ?kF ?kX ?kN ?kap (atAll_nil _) ?kdr ?kT ?kd ?ku ?_
    case hx2 => rw [Nat.mul_comm k]; exact Nat.mod_lt _ (two_pow_pos _)
    walk_at "m use"
    case kd => walk_at "m room"
    case ku => walk_at "m room"
    (refine postG ?_; intro G9 hG9; rintro r new h1 tk1 hP9; refine an2 hP9 ?_; clear hP9; rintro rfl hP9; refine ex3 hP9 ?_; clear hP9; intro vs1 ns1 n1 hP9; refine an4 hP9 ?_; clear hP9; rintro rfl hI1 hl1 hg1; refine hG9 _ _ _ _ ?_; clear hG9 G9; rintro F1 N1 ap1)
    simp only [List.append_nil] at N1
    dsimp only
    k_steps
    refine hold_in ?_
    refine' Spec.use (rest := []) (ih (R - M - 1) hq2 (x / 2 ^ ((M - L) * k)) M R _ _ _ _ _ _ vs1 ns1 n1 hU hM hRi hd2 hI1 (hl1 ▸ hRn) (hl1 ▸ hn) hxS) ?kB ?kF ?kX ?kN ?kap (atAll_nil _) ?kdr ?kT ?kd ?ku ?_
    walk_at "m use"
    case kd => walk_at "m room"
    case ku => walk_at "m room"
    (refine postG ?_; intro G9 hG9; rintro r new h2 tk2 hP9; refine an2 hP9 ?_; clear hP9; rintro rfl hP9; refine ex3 hP9 ?_; clear hP9; intro vs2 ns2 n2 hP9; refine an4 hP9 ?_; clear hP9; rintro rfl hI2 hl2 hg2; refine hG9 _ _ _ _ ?_; clear hG9 G9; rintro F2 N2 ap2)
    simp only [List.append_nil] at N2
    dsimp only
    k_steps
    refine hret _ _ _ _ ⟨rfl, _, _, _, rfl, hI2, hl2.trans hl1, fun i => ?_⟩ (by assumption) (by assumption) (by assumption)
    rw [hg2 i, hg1 i]
    by_cases h1 : L ≤ i ∧ i < M
    · have h2 : ¬ (M ≤ i ∧ i < R) := fun e => Nat.not_lt.mpr e.1 h1.2
      have h3 : L ≤ i ∧ i < R := ⟨h1.1, Nat.lt_trans h1.2 hMR⟩
      rw [if_neg h2, if_pos h1, if_pos h3, dig_low]
      have h4 : k * (i - L) + k ≤ k * (M - L) := by rw [← Nat.mul_succ]; exact Nat.mul_le_mul_left _ (Nat.sub_lt_sub_right h1.1 h1.2)
      rw [Nat.mul_comm _ k]; exact h4
    · by_cases h2 : M ≤ i ∧ i < R
      · have h3 : L ≤ i ∧ i < R := ⟨Nat.le_trans (Nat.le_of_lt hLM) h2.1, h2.2⟩
        rw [if_pos h2, if_pos h3, dig_high, Nat.mul_comm _ k, ← Nat.mul_add, show M - L + (i - M) = i - L by rw [Nat.add_comm]; exact Nat.sub_add_sub_cancel h2.1 (Nat.le_of_lt hLM)]
      · have h3 : ¬ (L ≤ i ∧ i < R) := fun e => (Nat.lt_or_ge i M).elim (fun h => h1 ⟨e.1, h⟩) (fun h => h2 ⟨h, e.2⟩)
        rw [if_neg h2, if_neg h1, if_neg h3]
end
theorem wOff_S_i2d : True := by
  w_top off
  trivial
section
theorem len_bitsB {x k B : Nat} {xi ki : Int} (hxi : xi = x) (hki : ki = k) (hk : 1 ≤ k) (hb : x < 2 ^ (B * k)) :
    ∃ len : Nat, len ≤ B ∧ ((Builtin.Int.intBits xi : Int) + ki - 1).fdiv ki = len ∧ x < 2 ^ (k * len) ∧ (x ≠ 0 → 1 ≤ len) ∧ (x = 0 → len = 0) := by
  subst hxi hki
  have h1 := bits_nat x (B * k) hb
  have h2 := lt_bits x
  have h0 : x = 0 → Builtin.Int.intBits (x : Int) = 0 := by intro e; subst e; rfl
  have h01 : x ≠ 0 → 1 ≤ Builtin.Int.intBits (x : Int) := by
    intro e
    refine Decidable.byContradiction fun hc => ?_
    have : Builtin.Int.intBits (x : Int) = 0 := by omega
    rw [this] at h2; omega
  generalize Builtin.Int.intBits (x : Int) = b at *
  have hd := Nat.div_add_mod (b + k - 1) k
  have hm := Nat.mod_lt (b + k - 1) (show k > 0 by omega)
  refine ⟨(b + k - 1) / k, ?_, ?_, ?_, fun e => ?_, fun e => ?_⟩
  · refine Nat.le_of_lt_succ ((Nat.div_lt_iff_lt_mul (by omega)).mpr ?_)
    rw [Nat.succ_mul]; omega
  · rw [show (b : Int) + (k : Int) - 1 = ((b + k - 1 : Nat) : Int) by omega, Int.fdiv_eq_ediv_of_nonneg _ (by omega)]; rfl
  · refine Nat.lt_of_lt_of_le h2 (Nat.pow_le_pow_right (by decide) ?_); omega
  · exact (Nat.le_div_iff_mul_le (by omega)).mpr (by have := h01 e; omega)
  · rw [h0 e]; exact Nat.div_eq_of_lt (by omega)
theorem i2d_spec (w : World) (x k Bn : Nat) (xi ki : Int) (t1 t2 : Tok) (hxi : xi = x) (hki : ki = k) (hk : 1 ≤ k ∧ k ≤ 32) (hb : x < 2 ^ (Bn * k)) (hBn : Bn ≤ 25) (tab : Led) (htab : Tab 39 (Str.ofString "_int2digits.<locals>.inner") 53 4 tab) :
   Spec w (.ref 44) [.int xi t1, .int ki t2] 30 500 [] tab (fun r nw => ∃ D vs ns n tab', r = .ref D ∧ nw = (D, listOf (List.toArray vs) n) :: tab' ∧ Tab 39 (Str.ofString "_int2digits.<locals>.inner") 53 4 tab' ∧ IntsAre vs ns ∧ ns.length ≤ Bn ∧ DigsOf k x ns) := by
  have hlen := len_bitsB hxi hki hk.1 hb
  subst hki
  (refine ex1 hlen ?_; clear hlen; intro len hP9; refine an5 hP9 ?_; clear hP9; intro hlB hfd hxl hl1 hl0)
  have hl25 : len ≤ 25 := Nat.le_trans hlB hBn
  have hki0 : (k : Int) ≠ 0 := by omega
  have hf0 : 0 ≤ ((Builtin.Int.intBits xi : Int) + (k:Int) - 1).fdiv k := by rw [hfd]; exact Int.natCast_nonneg _
  have hf1 : ((Builtin.Int.intBits xi : Int) + (k:Int) - 1).fdiv k ≤ 10000 := by rw [hfd]; exact Int.ofNat_le.mpr (Nat.le_trans hl25 (by decide))
  have hf2 : (((Builtin.Int.intBits xi : Int) + (k:Int) - 1).fdiv k).toNat ≤ 10000 := by rw [hfd]; exact Nat.le_trans hl25 (by decide)
  rcases htab with rfl | ⟨c', oc, rfl, hoc, hcP⟩
  · unfold Spec
    k_fill
    intro p loose mean mg mb dp un gd cn nm g1 g2 mr a ccd cl outer A₀ base h₀ L m rest s Q E B F X N hap hro hdr T hdp hun hret
    walk_at "m enter"
    (rename Frag.In _ _ => X')
    have cH := codeHd_of_K (c := 43) (P := 39) X' (by kernel_rfl)
    k_steps
    refine hold_in ?_
    split
    · rename_i hc
      have hx0 : xi ≠ 0 := by simpa using hc
      clear hc
      k_steps
      refine hold_in ?_
      rename_i g L1 h1 tk1 FG B1 T1 RO1 l1 o1 o2 o3 d1 d2 d3 l9 h2 l2 D9 h3 l3 h4 o4 d4 f9 c9 oc9 vs9 t9 ct9 dc9 h5 tk3 e1 e2 l4 l5 h6 o6 F6 N6 d6
      have hcode : FnCode oc9 (Str.ofString "_int2digits.<locals>.inner") := ⟨vs9, t9, e1, e2⟩
      refine' Spec.use (rest := [(39, tabObj #[rawInt 53, rawInt 4, .ref c9])]) (inn_spec w k hk (c' := c9) (D := D9) ?hst hcode ?hoD ?hoI ?hoN ?hne (len - 1) x 0 len xi 0 _ _ _ _ _ (List.replicate len 0) _ hxi rfl ?hR ?hRR ?hI ?hrl ?hr1000 ?hx) ?kB ?kF ?kX ?kN ?kap (atAll_nil _) ?kdr ?kT ?kd ?ku ?_
      case hst => exact rfl
      case hR => rw [List.size_toArray, List.length_replicate, hfd]; rfl
      case hRR => have := hl1 (by omega); omega
      case hrl => rw [List.length_replicate]; exact Nat.le_refl _
      case hr1000 => rw [List.length_replicate]; omega
      case hx => exact hxl
      case kB => k_asm
      case kF => k_asm
      case kX => k_asm
      case kT => k_asm
      case kN => ((rename News _ _ _ _ => N9); exact kst_newsOf N9 (by walk_at "m sub"))
      case kap => walk_at "m apart"
      case kdr => walk_at "m apart"
      case hoD => assumption
      case hoI => assumption
      case hoN => assumption
      case hne => refine ⟨?_, ?_, ?_, ?_, ?_⟩ <;> (refine neN ?_; omega)
      case hI => rw [hfd]; exact ints_rep 0 _ _
      case kd => walk_at "m room"
      case ku => walk_at "m room"
      (refine postG ?_; intro G9 hG9; rintro r new h9 tk9 hP9; refine an2 hP9 ?_; clear hP9; rintro rfl hP9; refine ex3 hP9 ?_; clear hP9; intro vs1 ns1 n1 hP9; refine an4 hP9 ?_; clear hP9; rintro rfl hI1 hll hg1; refine hG9 _ _ _ _ ?_; clear hG9 G9; rintro F1 N1 ap1)
      simp only [List.cons_append, List.nil_append] at N1
      dsimp only
      rw [List.length_replicate] at hll
      k_steps
      exact hret (.ref D9) [(D9, listOf vs1.toArray n1), (39, tabObj #[rawInt 53, rawInt 4, .ref c9]), (c9, oc9)] _ _ (in5 D9 vs1 ns1 n1 _ ⟨rfl, rfl, .inr ⟨c9, oc9, rfl, hcode, neN (by omega)⟩, hI1, by omega, digs_fin hxl hll hg1⟩) (by assumption) (news_pick (by assumption) (by walk_at "m sub")) (apart_pick (by assumption) (by walk_at "m sub"))
    · rename_i hc
      have hx0 : xi = 0 := by simpa using hc
      clear hc
      k_steps
      have hx00 : x = 0 := by omega
      have hl00 := hl0 hx00
      have hirep : ∀ tt, IntsAre (List.replicate (((Builtin.Int.intBits xi : Int) + (k:Int) - 1).fdiv (k:Int)).toNat (.int 0 tt)) (List.replicate len 0) := fun tt => by rw [hfd]; exact ints_rep 0 tt _
      have hdz : DigsOf k x (List.replicate len 0) := by rw [hl00, hx00]; exact digs_zero k
      rename_i g L1 h1 tk1 FG B1 T1 RO1 l1 o1 o2 o3 d1 d2 d3 l9 h2 l2 D9 h3 l3 h4 o4 d4 f9 c9 oc9 vs9 t9 ct9 dc9 h5 tk3 e1 e2 l4 l5 h6 o6 F6 N6 d6 kF kN kA
      have hcode : FnCode oc9 (Str.ofString "_int2digits.<locals>.inner") := ⟨vs9, t9, e1, e2⟩
      exact hret (.ref D9) [(D9, listOf (List.toArray (List.replicate (((Builtin.Int.intBits xi : Int) + (k:Int) - 1).fdiv (k:Int)).toNat (.int 0 _))) 0), (39, tabObj #[rawInt 53, rawInt 4, .ref c9]), (c9, oc9)] _ _ (in5 D9 (List.replicate (((Builtin.Int.intBits xi : Int) + (k:Int) - 1).fdiv (k:Int)).toNat (.int 0 _)) (List.replicate len 0) 0 _ ⟨rfl, rfl, .inr ⟨c9, oc9, rfl, hcode, neN (by omega)⟩, hirep _, by rw [List.length_replicate]; exact hlB, hdz⟩) (by assumption) (news_pick (by assumption) (by walk_at "m sub")) (apart_pick (by assumption) (by walk_at "m sub"))
  · unfold Spec
    k_fill
    intro p loose mean mg mb dp un gd cn nm g1 g2 mr a ccd cl outer A₀ base h₀ L m rest s Q E B F X N hap hro hdr T hdp hun hret
    walk_at "m enter"
    (rename Frag.In _ _ => X')
    have cH := codeHd_of_K (c := 43) (P := 39) X' (by kernel_rfl)
    k_steps
    refine hold_in ?_
    split
    · rename_i hc
      have hx0 : xi ≠ 0 := by simpa using hc
      clear hc
      k_steps
      refine hold_in ?_
      rename_i g L1 h1 tk1 FG B1 T1 RO1 l1 o1 o2 o3 d1 d2 d3 l9 h2 l2 D9 h3 l3 h4 o4 d4 f9 ct9 dc9 h5 tk3 l4 h6 o6 F6 N6 d6
      have hcode := hoc
      refine' Spec.use (rest := [(39, tabObj #[rawInt 53, rawInt 4, .ref c'])]) (inn_spec w k hk (c' := c') (D := D9) ?hst hcode ?hoD ?hoI ?hoN ?hne (len - 1) x 0 len xi 0 _ _ _ _ _ (List.replicate len 0) _ hxi rfl ?hR ?hRR ?hI ?hrl ?hr1000 ?hx) ?kB ?kF ?kX ?kN ?kap (atAll_nil _) ?kdr ?kT ?kd ?ku ?_
      case hst => exact rfl
      case hR => rw [List.size_toArray, List.length_replicate, hfd]; rfl
      case hRR => have := hl1 (by omega); omega
      case hrl => rw [List.length_replicate]; exact Nat.le_refl _
      case hr1000 => rw [List.length_replicate]; omega
      case hx => exact hxl
      case kB => k_asm
      case kF => k_asm
      case kX => k_asm
      case kT => k_asm
      case kN => ((rename News _ _ _ _ => N9); exact kst_newsOf N9 (by walk_at "m sub"))
      case kap => walk_at "m apart"
      case kdr => walk_at "m apart"
      case hoD => assumption
      case hoI => assumption
      case hoN => assumption
      case hne => refine ⟨?_, ?_, ?_, ?_, ?_⟩ <;> (refine neN ?_; omega)
      case hI => rw [hfd]; exact ints_rep 0 _ _
      case kd => walk_at "m room"
      case ku => walk_at "m room"
      (refine postG ?_; intro G9 hG9; rintro r new h9 tk9 hP9; refine an2 hP9 ?_; clear hP9; rintro rfl hP9; refine ex3 hP9 ?_; clear hP9; intro vs1 ns1 n1 hP9; refine an4 hP9 ?_; clear hP9; rintro rfl hI1 hll hg1; refine hG9 _ _ _ _ ?_; clear hG9 G9; rintro F1 N1 ap1)
      simp only [List.cons_append, List.nil_append] at N1
      dsimp only
      rw [List.length_replicate] at hll
      k_steps
      exact hret (.ref D9) [(D9, listOf vs1.toArray n1), (39, tabObj #[rawInt 53, rawInt 4, .ref c']), (c', oc)] _ _ (in5 D9 vs1 ns1 n1 _ ⟨rfl, rfl, .inr ⟨c', oc, rfl, hcode, neN (by omega)⟩, hI1, by omega, digs_fin hxl hll hg1⟩) (by assumption) (news_pick (by assumption) (by walk_at "m sub")) (apart_pick (by assumption) (by walk_at "m sub"))
    · rename_i hc
      have hx0 : xi = 0 := by simpa using hc
      clear hc
      k_steps
      have hx00 : x = 0 := by omega
      have hl00 := hl0 hx00
      have hirep : ∀ tt, IntsAre (List.replicate (((Builtin.Int.intBits xi : Int) + (k:Int) - 1).fdiv (k:Int)).toNat (.int 0 tt)) (List.replicate len 0) := fun tt => by rw [hfd]; exact ints_rep 0 tt _
      have hdz : DigsOf k x (List.replicate len 0) := by rw [hl00, hx00]; exact digs_zero k
      rename_i g L1 h1 tk1 FG B1 T1 RO1 l1 o1 o2 o3 d1 d2 d3 l9 h2 l2 D9 h3 l3 h4 o4 d4 f9 ct9 dc9 h5 tk3 l4 h6 o6 F6 N6 d6 kF kN kA
      have hcode := hoc
      exact hret (.ref D9) [(D9, listOf (List.toArray (List.replicate (((Builtin.Int.intBits xi : Int) + (k:Int) - 1).fdiv (k:Int)).toNat (.int 0 _))) 0), (39, tabObj #[rawInt 53, rawInt 4, .ref c']), (c', oc)] _ _ (in5 D9 (List.replicate (((Builtin.Int.intBits xi : Int) + (k:Int) - 1).fdiv (k:Int)).toNat (.int 0 _)) (List.replicate len 0) 0 _ ⟨rfl, rfl, .inr ⟨c', oc, rfl, hcode, neN (by omega)⟩, hirep _, by rw [List.length_replicate]; exact hlB, hdz⟩) (by assumption) (news_pick (by assumption) (by walk_at "m sub")) (apart_pick (by assumption) (by walk_at "m sub"))
end
theorem wOff_S_plc : True := by
  w_top off
  trivial
section
theorem plc_spec (w : World) (ls : Addr) (vs : List Value) (n1 : Nat) (n : Int) (t : Tok) (hI : IntsAre vs stepsL) (hn : 0 ≤ n ∧ n < 9000) :
   Spec w (.ref 155) [.ref ls, .int n t] 3 40 [(ls, listOf vs.toArray n1)] [] (fun r nw => ∃ l us n2, r = .ref l ∧ nw = [(l, listOf (List.toArray us) n2)] ∧ IntsAre us (greedy n.toNat n [])) := by
  unfold Spec
  k_fill
  intro p loose mean mg mb dp un gd cn nm g1 g2 mr a ccd cl outer A₀ base h₀ L m rest s Q E B F X N hap hro hdr T hdp hun hret
  walk_at "m enter"
  (rename AtAll _ _ => RO')
  have hL9 := isList_of RO' (List.Mem.head _)
  have hlL := ro_lt (by assumption) RO' (List.Mem.head _)
  dsimp only at hlL
  have hle : stepsL.length = 27 := rfl
  k_steps
  refine hold_in (While_inv (fun k m' nw => ∃ l us n2, ∃ az : List Int, ∃ x tx tl, m' (Str.ofString "places") = some (.ref l) ∧ m' (Str.ofString "number") = some (.int x tx) ∧ m' (Str.ofString "steps") = some (.ref ls) ∧ nw = [(l, listOf (List.toArray us) n2)] ∧ IntsAre us az ∧ (az.length : Int) + x ≤ 9000 ∧ k = x.toNat ∧ x ≤ n ∧ greedy x.toNat x az = greedy n.toNat n []) (by k_asm) (by k_asm) (in7 _ [] 0 [] n _ 0 ⟨rfl, rfl, rfl, rfl, .nil, by simp; omega, rfl, by omega, rfl⟩) ?_)
  (rintro k m₁ nw₁ h₁ tk₁ F₁ N₁ hP9; refine ex7 hP9 ?_; clear hP9; intro l us n2 az x tx tl hP9; refine an9 hP9 ?_; clear hP9; rintro hm1 hm2 hm3 rfl hus hal rfl hxn hg)
  k_steps
  refine hold_in ?_
  split
  · rename_i hc
    have hx0 : 0 < x := by simpa using hc
    clear hc
    have hus2 := IntsAre.length hus
    have husz : us.length ≤ 10000 := by omega
    k_steps
    refine hold_in ?_
    refine' Spec.use (rest := _) (bis_spec w ls stepsL vs n1 x _ hI rfl steps_mono) ?kB ?kF ?kX ?kN ?kap ?kro ?kdr ?kT ?kd ?ku ?_
    case kB => k_asm
    case kF => k_asm
    case kX => k_asm
    case kT => k_asm
    case kN => exact N₁
    case kro => exact atAll_keep F₁ RO'
    case kap => exact apart_nil _
    case kdr => exact apart_nil' _
    case kd => walk_at "m room"
    case ku => walk_at "m room"
    (refine postG ?_; intro G9 hG9; rintro r5 new5 h5 tk5 hP9; refine an2 hP9 ?_; clear hP9; rintro rfl hP9; refine ex2 hP9 ?_; clear hP9; intro lo t5 hP9; refine an4 hP9 ?_; clear hP9; rintro rfl hlo1 hlo2 hlo3; refine hG9 _ _ _ _ ?_; clear hG9 G9; rintro F5 N5 ap5)
    simp only [List.nil_append] at N5
    have hcl : lo = cntLe x := (cnt_of hlo1 hlo2 hlo3).symm
    clear hlo2 hlo3
    subst hcl
    have hcp := cnt_pos hx0
    have hat : (0 : Int) ≤ (cntLe x : Int) - 1 ∧ (cntLe x : Int) - 1 < stepsL.length := by rw [hle]; omega
    have hge := steps_ge (((cntLe x : Int) - 1).toNat) (by omega)
    dsimp only
    k_steps
    have hxs : (x - stepsL.getD ((cntLe x : Int) - 1).toNat 0).toNat < x.toNat := (Int.toNat_lt_toNat hx0).mpr (Int.sub_lt_self _ (Int.lt_of_lt_of_le (by decide) hge))
    walk_at "m wstep"
    exact ⟨_, hxs, in7 l _ _ (((cntLe x : Int) - 1) :: az) _ _ tl ⟨hm1, rfl, hm3, rfl, .cons _ _ hus, by rw [List.length_cons]; omega, rfl, by omega, by rw [← greedy_step hx0]; exact hg⟩⟩
  · rename_i hc
    have hx0 : ¬ 0 < x := by simpa using hc
    clear hc
    k_steps
    rw [greedy_end hx0] at hg
    subst hg
    exact hret _ _ _ _ (in3 _ _ _ ⟨rfl, rfl, hus⟩) (by assumption) (by assumption) (by assumption)
end
theorem wOff_S_rdc : True := by
  w_top off
  trivial
section
theorem rdc_spec (w : World) {xS dS fG c D C pS : Addr} {oc oC : Obj} {doc pm ct : Value} {a1 b1 a2 a3 b3 a4 a5 : Tok} {params : Arguments} {body : List Stmt} {scope : Scope} {pos : Pos} {xL dL pL : Addr} {e1 e2 e3 f3 e4 : Tok} {vs : List Value} {rs : List Nat} {n : Nat} {lv : Int} {bl : Tok} (hst : stmtOf (Str.ofString "_law_stream") 2 = .FunctionDef (Str.ofString "give") params body [] none [] scope none (Str.ofString "give") pos) (hoc : FnCode oc (Str.ofString "_law_stream.<locals>.give")) (hoC : oC.data = .cell (some (.ref D))) (hord : @LT.lt Nat _ 116 C ∧ @LT.lt Nat _ C D ∧ @LT.lt Nat _ D c ∧ @LT.lt Nat _ c fG ∧ @LT.lt Nat _ fG dS ∧ @LT.lt Nat _ dS xS ∧ @LT.lt Nat _ xS dL ∧ @LT.lt Nat _ dL xL ∧ @LT.lt Nat _ xL pL) (hv : StrsAre vs (rs.reverse.map sg)) (hl : rs.length ≤ 1000) (hlv : 0 ≤ lv ∧ lv + rs.length ≤ 2000) :
   CSpec w (.ref 93) [.ref xL] 4 20 [] [(xL, instObj 110 dL), (dL, dictOf [{ hash := PyData.keyHash w.params (Str.ofString "lineno"), key := Value.str (Str.ofString "lineno") e1, val := Value.int (lv) bl }, { hash := PyData.keyHash w.params (Str.ofString "instream"), key := Value.str (Str.ofString "instream") e2, val := Value.ref xS }, { hash := PyData.keyHash w.params (Str.ofString "whitespace"), key := Value.str (Str.ofString "whitespace") e3, val := Value.str (Str.ofString "\n\t\r ") f3 }, { hash := PyData.keyHash w.params (Str.ofString "pushback"), key := Value.str (Str.ofString "pushback") e4, val := Value.ref pL }] 4), (xS, instObj 110 dS), (dS, dictOf [{ hash := PyData.keyHash w.params (Str.ofString "lineno"), key := Value.str (Str.ofString "lineno") a1, val := Value.int 1 b1 }, { hash := PyData.keyHash w.params (Str.ofString "instream"), key := Value.str (Str.ofString "instream") a2, val := Value.none }, { hash := PyData.keyHash w.params (Str.ofString "whitespace"), key := Value.str (Str.ofString "whitespace") a3, val := Value.str (Str.ofString "\n\t\r ") b3 }, { hash := PyData.keyHash w.params (Str.ofString "pushback"), key := Value.str (Str.ofString "pushback") a4, val := Value.ref pS }, { hash := PyData.keyHash w.params (Str.ofString "read"), key := Value.str (Str.ofString "read") a5, val := Value.ref fG }] 5), (fG, fnMade (Str.ofString "give") (Str.ofString "_law_stream.<locals>.give") params body scope [(Str.ofString "signs", C)] doc pm c ct), (c, oc), (D, listOf (List.toArray (vs)) n), (C, oC)]
     (fun r nw => ∃ vs' n' t' lv' bl', nw = [(xL, instObj 110 dL), (dL, dictOf [{ hash := PyData.keyHash w.params (Str.ofString "lineno"), key := Value.str (Str.ofString "lineno") e1, val := Value.int (lv') bl' }, { hash := PyData.keyHash w.params (Str.ofString "instream"), key := Value.str (Str.ofString "instream") e2, val := Value.ref xS }, { hash := PyData.keyHash w.params (Str.ofString "whitespace"), key := Value.str (Str.ofString "whitespace") e3, val := Value.str (Str.ofString "\n\t\r ") f3 }, { hash := PyData.keyHash w.params (Str.ofString "pushback"), key := Value.str (Str.ofString "pushback") e4, val := Value.ref pL }] 4), (xS, instObj 110 dS), (dS, dictOf [{ hash := PyData.keyHash w.params (Str.ofString "lineno"), key := Value.str (Str.ofString "lineno") a1, val := Value.int 1 b1 }, { hash := PyData.keyHash w.params (Str.ofString "instream"), key := Value.str (Str.ofString "instream") a2, val := Value.none }, { hash := PyData.keyHash w.params (Str.ofString "whitespace"), key := Value.str (Str.ofString "whitespace") a3, val := Value.str (Str.ofString "\n\t\r ") b3 }, { hash := PyData.keyHash w.params (Str.ofString "pushback"), key := Value.str (Str.ofString "pushback") a4, val := Value.ref pS }, { hash := PyData.keyHash w.params (Str.ofString "read"), key := Value.str (Str.ofString "read") a5, val := Value.ref fG }] 5), (fG, fnMade (Str.ofString "give") (Str.ofString "_law_stream.<locals>.give") params body scope [(Str.ofString "signs", C)] doc pm c ct), (c, oc), (D, listOf (List.toArray (vs')) n'), (C, oC)] ∧ StrsAre vs' (rs.tail.reverse.map sg) ∧ r = .str (strL (rs.take 1)) t' ∧ 0 ≤ lv' ∧ lv' + rs.tail.length ≤ 2000) := by
  have hne3 : @Ne Nat fG D ∧ @Ne Nat c D ∧ @Ne Nat C D := ⟨neN (by omega), neN (by omega), neN (by omega)⟩
  unfold CSpec
  k_fill
  intro p loose mean mg mb dp un gd cn nm g1 g2 mr a ccd cl outer A₀ base h₀ L m rest s Q E B F X N hap hro hdr T hdp hun hret
  walk_at "m enterC"
  k_steps
  refine hold_in ?_
  refine' Spec.use (rest := [(xL, instObj 110 dL), (dL, dictOf [{ hash := PyData.keyHash w.params (Str.ofString "lineno"), key := Value.str (Str.ofString "lineno") e1, val := Value.int (lv) bl }, { hash := PyData.keyHash w.params (Str.ofString "instream"), key := Value.str (Str.ofString "instream") e2, val := Value.ref xS }, { hash := PyData.keyHash w.params (Str.ofString "whitespace"), key := Value.str (Str.ofString "whitespace") e3, val := Value.str (Str.ofString "\n\t\r ") f3 }, { hash := PyData.keyHash w.params (Str.ofString "pushback"), key := Value.str (Str.ofString "pushback") e4, val := Value.ref pL }] 4), (xS, instObj 110 dS), (dS, dictOf [{ hash := PyData.keyHash w.params (Str.ofString "lineno"), key := Value.str (Str.ofString "lineno") a1, val := Value.int 1 b1 }, { hash := PyData.keyHash w.params (Str.ofString "instream"), key := Value.str (Str.ofString "instream") a2, val := Value.none }, { hash := PyData.keyHash w.params (Str.ofString "whitespace"), key := Value.str (Str.ofString "whitespace") a3, val := Value.str (Str.ofString "\n\t\r ") b3 }, { hash := PyData.keyHash w.params (Str.ofString "pushback"), key := Value.str (Str.ofString "pushback") a4, val := Value.ref pS }, { hash := PyData.keyHash w.params (Str.ofString "read"), key := Value.str (Str.ofString "read") a5, val := Value.ref fG }] 5)]) (giv_spec w (doc := doc) (pm := pm) (ct := ct) (f := fG) (C := C) (c := c) (tx := _) hst hoc hoC hne3 vs rs n hv hl) ?kB ?kF ?kX ?kN ?kap (atAll_nil _) ?kdr ?kT ?kd ?ku ?_
  walk_at "m use"
  case kd => walk_at "m room"
  case ku => walk_at "m room"
  (refine postG ?_; intro G9 hG9; rintro r9 new9 h9 tk9 hP9; refine ex3 hP9 ?_; clear hP9; intro vs' n' t9 hP9; refine an3 hP9 ?_; clear hP9; rintro rfl hv' rfl; refine hG9 _ _ _ _ ?_; clear hG9 G9; rintro F9 N9 ap9)
  simp only [List.cons_append, List.nil_append] at N9
  dsimp only
  k_steps
  refine hold_in ?_
  split
  · rename_i hc
    have hrl : 1 ≤ rs.length := by
      rcases rs with _ | ⟨a, rs⟩
      · exact absurd hc (by decide +kernel)
      · simp
    have htl : rs.tail.length = rs.length - 1 := List.length_tail
    k_steps
    exact hret _ [(xL, instObj 110 dL), (dL, dictOf [{ hash := PyData.keyHash w.params (Str.ofString "lineno"), key := Value.str (Str.ofString "lineno") e1, val := Value.int (lv + 1) _ }, { hash := PyData.keyHash w.params (Str.ofString "instream"), key := Value.str (Str.ofString "instream") e2, val := Value.ref xS }, { hash := PyData.keyHash w.params (Str.ofString "whitespace"), key := Value.str (Str.ofString "whitespace") e3, val := Value.str (Str.ofString "\n\t\r ") f3 }, { hash := PyData.keyHash w.params (Str.ofString "pushback"), key := Value.str (Str.ofString "pushback") e4, val := Value.ref pL }] 4), (xS, instObj 110 dS), (dS, dictOf [{ hash := PyData.keyHash w.params (Str.ofString "lineno"), key := Value.str (Str.ofString "lineno") a1, val := Value.int 1 b1 }, { hash := PyData.keyHash w.params (Str.ofString "instream"), key := Value.str (Str.ofString "instream") a2, val := Value.none }, { hash := PyData.keyHash w.params (Str.ofString "whitespace"), key := Value.str (Str.ofString "whitespace") a3, val := Value.str (Str.ofString "\n\t\r ") b3 }, { hash := PyData.keyHash w.params (Str.ofString "pushback"), key := Value.str (Str.ofString "pushback") a4, val := Value.ref pS }, { hash := PyData.keyHash w.params (Str.ofString "read"), key := Value.str (Str.ofString "read") a5, val := Value.ref fG }] 5), (fG, fnMade (Str.ofString "give") (Str.ofString "_law_stream.<locals>.give") params body scope [(Str.ofString "signs", C)] doc pm c ct), (c, oc), (D, listOf (List.toArray (vs')) n'), (C, oC)] _ _ (in5 vs' n' _ (lv + 1) _ ⟨rfl, hv', rfl, by omega, by omega⟩) (by assumption) (news_pick (by assumption) (by walk_at "m sub")) (apart_pick (by assumption) (by walk_at "m sub"))
  · rename_i hc
    have htl : rs.tail.length = rs.length - 1 := List.length_tail
    k_steps
    exact hret _ [(xL, instObj 110 dL), (dL, dictOf [{ hash := PyData.keyHash w.params (Str.ofString "lineno"), key := Value.str (Str.ofString "lineno") e1, val := Value.int (lv) bl }, { hash := PyData.keyHash w.params (Str.ofString "instream"), key := Value.str (Str.ofString "instream") e2, val := Value.ref xS }, { hash := PyData.keyHash w.params (Str.ofString "whitespace"), key := Value.str (Str.ofString "whitespace") e3, val := Value.str (Str.ofString "\n\t\r ") f3 }, { hash := PyData.keyHash w.params (Str.ofString "pushback"), key := Value.str (Str.ofString "pushback") e4, val := Value.ref pL }] 4), (xS, instObj 110 dS), (dS, dictOf [{ hash := PyData.keyHash w.params (Str.ofString "lineno"), key := Value.str (Str.ofString "lineno") a1, val := Value.int 1 b1 }, { hash := PyData.keyHash w.params (Str.ofString "instream"), key := Value.str (Str.ofString "instream") a2, val := Value.none }, { hash := PyData.keyHash w.params (Str.ofString "whitespace"), key := Value.str (Str.ofString "whitespace") a3, val := Value.str (Str.ofString "\n\t\r ") b3 }, { hash := PyData.keyHash w.params (Str.ofString "pushback"), key := Value.str (Str.ofString "pushback") a4, val := Value.ref pS }, { hash := PyData.keyHash w.params (Str.ofString "read"), key := Value.str (Str.ofString "read") a5, val := Value.ref fG }] 5), (fG, fnMade (Str.ofString "give") (Str.ofString "_law_stream.<locals>.give") params body scope [(Str.ofString "signs", C)] doc pm c ct), (c, oc), (D, listOf (List.toArray (vs')) n'), (C, oC)] _ _ (in5 vs' n' _ lv _ ⟨rfl, hv', rfl, by omega, by omega⟩) (by assumption) (news_pick (by assumption) (by walk_at "m sub")) (apart_pick (by assumption) (by walk_at "m sub"))
end
theorem wOff_S_nxt : True := by
  w_top off
  trivial
section
theorem fr_ext {h₀ h h' : Heap} {L I : Addr} {m : Str → Option Value} (F : Fr h₀ L h m) (hI : h₀.get? I = none) (hL : L ≠ I) (x : Heap.ExtBut I h h') : Fr h₀ L h' m :=
  ⟨F.ns.at' fun o e => x _ o hL e, fun b o e => x b o (fun z => by rw [z, hI] at e; cases e) (F.keep b o e), F.above⟩
theorem news_ext {h₀ h h' : Heap} {L I : Addr} {news : Led} (N : News h₀ L h news) (off : ∀ p ∈ news, p.1 ≠ I) (x : Heap.ExtBut I h h') : News h₀ L h' news := fun p hp => ⟨x _ _ (off p hp) (N p hp).1, (N p hp).2⟩
theorem CSpec.use {w : World} {f : Value} {vs : List Value} {D U : Nat} {ro foot : Led} {Post : Value → Led → Prop} (S : CSpec w f vs D U ro foot Post) {p : Program} {loose : List Str} {mean : ExcName → Option Value} {mg mb : Str → Option Value} {dp un : Nat} {gd : Option (List Code)} {cn : Str} {nm : List (Str × NameKind)} {g1 g2 : Bool} {mr : List (Str × Const)} {a : Addr} {ccd : Value} {cl : List (Str × Addr)} {outer : List Env} {A₀ : Around} {base h₀ : Heap} {L : Addr} {m : Str → Option Value} {s : Shared} {rest : Led} {Q E : Value → Shared → Prop}
    (B : Below A₀ base outer h₀) (F : Fr h₀ L s.heap m) (X : (Mine.hd.heap_39 w.params).In h₀) (N : News h₀ L s.heap (foot ++ rest)) (hap : Apart foot rest) (hro : AtAll s.heap ro) (hdr : Apart ro foot) (T : Top p loose mean mg mb h₀) (hd : dp + D < recursionLimit) (hu : un + U < cLine)
    (ret : ∀ (r : Value) (new : Led) (h' : Heap) (tk' : Nat), Post r new → Fr h₀ L h' m → News h₀ L h' (new ++ rest) → Apart new rest → Q r { s with heap := h', toks := tk' }) :
    codeAny (model PySem.Challenge.rw_sw0064_01.row.prog w) (ktrTop dp un gd cn { kind := .function, names := nm, isGenerator := g1, isCoroutine := g2, more := mr } L a ccd cl outer) (.call f ⟨vs, []⟩) (fun r s' => match r with | .ok (.ret v) => Q v s' | .ok _ => False | .error e => E e s') s :=
  S _ _ _ _ _ _ _ _ _ _ _ _ _ _ _ _ _ _ _ _ _ _ _ _ _ _ B F X N hap hro hdr T hd hu ret
/-- what reading one sign asks of the ledger: S rs lg says that lg holds a lexer on a stream whose signs rs are still to be read -/
def Reads1 (w : World) (xL : Addr) (S : List Nat → Led → Prop) : Prop := ∀ rs lg, S rs lg → rs.length ≤ 1000 → CSpec w (.ref 93) [.ref xL] 4 20 [] lg (fun r nw => S rs.tail nw ∧ ∃ t, r = .str (strL (rs.take 1)) t)
def Under (pL : Addr) (S : List Nat → Led → Prop) : Prop := ∀ rs lg, S rs lg → ∀ p ∈ lg, @LT.lt Nat _ p.1 pL
theorem apart_lt3 {lg : Led} {pL M I : Addr} {o1 o2 o3 : Obj} (h : ∀ p ∈ lg, @LT.lt Nat _ p.1 pL) (hMI : @LT.lt Nat _ pL M ∧ @LT.lt Nat _ M I) : Apart lg [(I, o1), (M, o2), (pL, o3)] := fun p hp q hq => by
  have h1 := h p hp
  simp only [List.mem_cons, List.not_mem_nil, or_false] at hq
  rcases hq with rfl | rfl | rfl
  · exact Nat.ne_of_lt (Nat.lt_trans h1 (Nat.lt_trans hMI.1 hMI.2))
  · exact Nat.ne_of_lt (Nat.lt_trans h1 hMI.1)
  · exact Nat.ne_of_lt h1
theorem sub_3 {α : Type} {a b c : α} {lg : List α} : ∀ p ∈ lg ++ [a, b, c], p ∈ a :: b :: c :: lg := sub_appI (sub_skip (sub_skip (sub_skip sub_refl))) (sub_cons (.head _) (sub_cons (.tail _ (.head _)) (sub_cons (.tail _ (.tail _ (.head _))) sub_nil)))
theorem sub_3' {α : Type} {a b c : α} {lg : List α} : ∀ p ∈ a :: b :: c :: lg, p ∈ lg ++ [a, b, c] := sub_cons (List.mem_append_right _ (.head _)) (sub_cons (List.mem_append_right _ (.tail _ (.head _))) (sub_cons (List.mem_append_right _ (.tail _ (.tail _ (.head _)))) (sub_appL sub_refl)))
theorem nxt (w : World) {xL pL : Addr} {S : List Nat → Led → Prop} (hS : Reads1 w xL S) (hlt : Under pL S) {I M : Addr} {ti : Tok} {oP : Obj} {rs : List Nat} {lg : Led} (hMI : @LT.lt Nat _ pL M ∧ @LT.lt Nat _ M I) (hs : S rs lg) (hl : rs.length ≤ 1000)
    {p : Program} {loose : List Str} {mean : ExcName → Option Value} {mg mb : Str → Option Value} {dp un : Nat} {gd : Option (List Code)} {cn : Str} {nm : List (Str × NameKind)} {g1 g2 : Bool} {mr : List (Str × Const)} {a : Addr} {ccd : Value} {cl : List (Str × Addr)} {outer : List Env} {A₀ : Around} {base h₀ : Heap} {L : Addr} {m : Str → Option Value} {s : Shared} {Q : Option Value → Shared → Prop} {E : Value → Shared → Prop}
    (B : Below A₀ base outer h₀) (F : Fr h₀ L s.heap m) (X : (Mine.hd.heap_39 w.params).In h₀) (N : News h₀ L s.heap ((I, citObj (.ref M) ti) :: (M, methodObj (.ref 93) (.ref xL)) :: (pL, oP) :: lg)) (T : Top p loose mean mg mb h₀) (hd : dp + 4 < recursionLimit) (hu : un + 24 < cLine)
    (q1 : ∀ ch rs', rs = ch :: rs' → ∀ h' tk' lg' t', Fr h₀ L h' m → News h₀ L h' ((I, citObj (.ref M) ti) :: (M, methodObj (.ref 93) (.ref xL)) :: (pL, oP) :: lg') → S rs' lg' → Q (some (.str (sg ch) t')) { s with heap := h', toks := tk' })
    (q0 : rs = [] → ∀ h' tk' lg', Fr h₀ L h' m → News h₀ L h' ((pL, oP) :: lg') → S [] lg' → Q none { s with heap := h', toks := tk' }) :
    wpAny (model PySem.Challenge.rw_sw0064_01.row.prog w) (ktrTop dp un gd cn { kind := .function, names := nm, isGenerator := g1, isCoroutine := g2, more := mr } L a ccd cl outer) (pyNext (.ref I)) Q E s := by
  have hfn : ∃ fo, (Mine.hd.heap_39 w.params).lookup 93 = some fo ∧ ∃ fv, fo.data = .func fv := ⟨_, rfl, _, rfl⟩
  (refine ex1 hfn ?_; clear hfn; intro fo hP9; refine an2 hP9 ?_; clear hP9; intro hfo hP9; refine ex1 hP9 ?_; clear hP9; intro fv hP9; revert hP9; intro hfv)
  have NI := N _ (.head _)
  have NM := N _ (.tail _ (.head _))
  refine wpAny_pyNext_cit rfl NI.1 NM.1 ((X.keeps F.keep) _ _ hfo) hfv ?_
  refine CSpec.use (rest := [(I, citObj (.ref M) ti), (M, methodObj (.ref 93) (.ref xL)), (pL, oP)]) (hS rs lg hs hl) (dp := dp) (un := un + 1) B F X (kst_newsOf N sub_3) (apart_lt3 (hlt _ _ hs) hMI) (atAll_nil _) (apart_nil _) T hd (by omega) ?_
  (refine postG ?_; intro G9 hG9; rintro r new h' tk' hP9; refine an2 hP9 ?_; clear hP9; intro hs' hP9; refine ex1 hP9 ?_; clear hP9; intro t' hP9; revert hP9; rintro rfl; refine hG9 _ _ _ _ ?_; clear hG9 G9; rintro F' N' ap')
  have N2 : News h₀ L h' ((I, citObj (.ref M) ti) :: (M, methodObj (.ref 93) (.ref xL)) :: (pL, oP) :: new) := kst_newsOf N' sub_3'
  refine ⟨_, _, rfl, (N2 _ (.head _)).1, (N2 _ (.tail _ (.head _))).1, ⟨_, (X.keeps F'.keep) _ _ hfo, _, hfv⟩, fun hne => ?_, fun he h2 x2 => ?_⟩
  · rcases rs with _ | ⟨c0, rs'⟩
    · exact absurd (by decide +kernel) hne
    · exact q1 c0 rs' rfl h' tk' new t' F' N2 hs'
  · rcases rs with _ | ⟨c0, rs'⟩
    · refine q0 rfl h2 tk' new (fr_ext F' NI.2.2 (fun z => NI.2.1 z.symm) x2) (news_ext (kst_newsOf N2 (sub_skip (sub_skip sub_refl))) (fun p hp => ?_) x2) hs'
      rcases List.mem_cons.mp hp with rfl | hp
      · exact Nat.ne_of_lt (Nat.lt_trans hMI.1 hMI.2)
      · exact ap' p hp _ (.head _)
    · exact absurd he (by intro z; have := congrArg (fun s : Str => s.cps.size) z; revert this; show (1 = (Str.ofString "").cps.size → False); decide +kernel)
end
theorem wOff_S_gtk : True := by
  w_top off
  trivial
section
local macro_rules | `(tactic| walk_at "m memT") => `(tactic| first | exact List.Mem.head _ | assumption | (refine' List.Mem.tail _ ?_; walk_at "m memT"))
local macro_rules | `(tactic| k_mem) => `(tactic| walk_at "m memT")
theorem citN {prog : Program} {w : World} {A : Around} {E : Value → Shared → Prop} {s : Shared} {h₀ : Heap} {L it : Addr} {news : Led} {f : Value} {t : Tok} {Q : Value → Shared → Prop} (N : News h₀ L s.heap news) (hm : (it, citObj f t) ∈ news) (h : Q (.ref it) s) : wpAny (model prog w) A (pyIter (.ref it)) Q E s := wpAny_pyIter_cit (N _ hm).1 h
local macro_rules | `(tactic| walk_at "call builtin:iter") => `(tactic| (k_here; k_dflt (refine' m_iterSent ?F ?N ?m ?_; (case F => k_asm); (case N => k_asm); (case m => k_mem)); intro D' h' F' N' l1; (try k_lt l1)))
local macro_rules | `(tactic| walk_at "exec For Name Name cons nil") => `(tactic| (k_here; k_dflt (refine owit_for ?_)))
local macro_rules | `(tactic| walk_at "pyIter ref") => `(tactic| (k_here; (with_reducible show wpAny _ _ (pyIter (Value.ref _)) (OwitAt _ _ _ _ _ _ _ _) _ _); k_dflt (refine' citN ?N ?m ?_; (case N => k_asm); (case m => k_mem))))
local macro_rules | `(tactic| walk_at "OwitRest") => `(tactic| (k_here; refine hold_out ?_))
local macro_rules | `(tactic| walk_at "OwitFlow") => `(tactic| (k_here; refine hold_out ?_))
theorem ws_inL (c : Nat) : (!(Builtin.Str.occurrences (Str.ofString "\n\t\r ") (sg c) 0 (Str.ofString "\n\t\r ").length 1).isEmpty) = true ↔ c = 10 ∨ c = 9 ∨ c = 13 ∨ c = 32 := by
  rw [show (Str.ofString "\n\t\r ").length = 4 from (by decide +kernel)]
  exact ws_in c
theorem gtkA (w : World) {xL dL pL xS : Addr} {e1 e2 e3 f3 e4 : Tok} {S : List Nat → Led → Prop} (hS : Reads1 w xL S) (hlt : Under pL S) (hx : ∀ rs lg, S rs lg → (xL, instObj 110 dL) ∈ lg) (hd : ∀ rs lg, S rs lg → ∃ lv bl, (dL, dictOf [{ hash := PyData.keyHash w.params (Str.ofString "lineno"), key := Value.str (Str.ofString "lineno") e1, val := Value.int (lv) bl }, { hash := PyData.keyHash w.params (Str.ofString "instream"), key := Value.str (Str.ofString "instream") e2, val := Value.ref xS }, { hash := PyData.keyHash w.params (Str.ofString "whitespace"), key := Value.str (Str.ofString "whitespace") e3, val := Value.str (Str.ofString "\n\t\r ") f3 }, { hash := PyData.keyHash w.params (Str.ofString "pushback"), key := Value.str (Str.ofString "pushback") e4, val := Value.ref pL }] 4) ∈ lg) {rs wd rr : List Nat} {np : Nat} {lg : Led} (hs : S rs lg) (hl : rs.length ≤ 62) (hrd : Reads rs wd rr) :
   Spec w (.ref 100) [.ref xL] 8 60 [] ((pL, listOf #[] np) :: lg)
     (fun r nw => ∃ lg', nw = (pL, listOf #[] np) :: lg' ∧ S rr lg' ∧ ∃ t, r = .str (strL wd) t) := by
  have m1 := hx _ _ hs
  (refine ex2 (hd _ _ hs) ?_; intro lv bl m2)
  unfold Spec
  k_fill
  intro p loose mean mg mb dp un gd cn nm g1 g2 mr a ccd cl outer A₀ base h₀ L m rest s Q E B F X N hap hro hdr T hdp hun hret
  walk_at "m enter"
  k_steps
  refine hold_in ?_
  refine if_n (by decide) ?_
  k_steps
  refine hold_in ?_
  rename_i g1 L1 h1 FG B1 X1 T1 RO1 tk1 tk2 h2 M1 h3 l1 I1 h4 l2 h5 F1 N1
  have hMI : @LT.lt Nat _ pL M1 ∧ @LT.lt Nat _ M1 I1 := ⟨l1.1, l2.1⟩
  refine citRest_ind (fun k s' => ∃ rs' h' tk' m' lg' tt, Reads rs' wd rr ∧ rs'.length ≤ k ∧ rs'.length ≤ 62 ∧ s' = { s with heap := h', toks := tk' } ∧ Fr g1 L1 h' m' ∧ News g1 L1 h' ((I1, citObj (.ref M1) _) :: (M1, methodObj (.ref 93) (.ref xL)) :: (pL, listOf #[] np) :: lg') ∧ S rs' lg' ∧ m' (Str.ofString "token") = some (.str (strL []) tt) ∧ m' (Str.ofString "self") = some (.ref xL) ∧ m' (Str.ofString "fiter") = some (.ref I1)) ?_ 64 rs.length _ (by omega) (in6 rs _ _ _ lg _ ⟨hrd, Nat.le_refl _, hl, rfl, F1, N1, hs, by rw [← nil_str]; rfl, rfl, rfl⟩)
  clear F1 N1 l1 l2 m1 m2 hs hl
  intro k s7 hJ
  refine ex6 hJ ?_
  clear hJ
  intro rs' h' tk' m' lg' tt hJ
  refine an10 hJ ?_
  clear hJ
  rintro hrd' hk h60 rfl F7 N7 hs7 hm1 hm2 hm3
  refine' nxt w hS hlt (I := I1) (M := M1) hMI hs7 ?hl ?kB F7 ?kX N7 ?kT ?kd ?ku ?q1 ?q0
  case hl => omega
  case kB => k_asm
  case kX => k_asm
  case kT => k_asm
  case kd => walk_at "m room"
  case ku => walk_at "m room"
  case q0 =>
    rintro rfl h9 tk9 lg9 F9 N9 hs9
    obtain ⟨rfl, rfl⟩ := reads_nil hrd'
    k_steps
    exact hret _ ((pL, listOf #[] np) :: lg9) _ _ ⟨lg9, rfl, hs9, _, rfl⟩ (by assumption) (by assumption) (by assumption)
  case q1 =>
    rintro ch rs2 rfl h9 tk9 lg9 t9 F9 N9 hs9
    have m1 := hx _ _ hs9
    (refine ex2 (hd _ _ hs9) ?_; intro lv bl m2)
    walk_at "storeName"
    (try dsimp only)
    refine gen_Q ?_
    intro QA hQA
    k_steps
    refine hold_in ?_
    
    have hw := ws_inL ch
    rcases reads_inv hrd' with ⟨hch, hrd2⟩ | ⟨hch, c0, ws, hwd, hrs⟩ | ⟨hch, hrs⟩
    · refine if_y (hw.mpr (.inl hch)) ?_
      k_steps
      refine hQA _ _ ?_
      dsimp only [OwitFlow]
      (rename News _ _ _ _ => N10)
      (rename Fr _ _ _ _ => F10)
      exact ⟨k - 1, Nat.sub_one_lt_of_lt (Nat.lt_of_lt_of_le (Nat.succ_pos _) hk), in6 rs2 _ _ _ lg9 tt ⟨hrd2, Nat.le_sub_one_of_lt hk, Nat.le_of_succ_le h60, rfl, F10, N10, hs9, hm1, hm2, hm3⟩⟩
    · subst hch hwd hrs
      refine if_n (fun e => absurd (hw.mp e) (by decide)) ?_
      k_steps
      refine hold_in ?_
      refine if_f (by decide +kernel) ?_
      k_steps
      refine hold_in ?_
      refine if_t (by decide +kernel) ?_
      k_steps
      refine hold_in ?_
      have hlen := flat2_len ws
      have h60' := h60
      simp only [List.length_cons, List.length_append] at h60'
      have hadd : (strL []).length + (sg c0).length ≤ 9000 := by rw [strL_length, sg_length]; decide
      have hl9 : (c0 :: (ws.flatMap (fun c => [92, c]) ++ 10 :: rr)).length ≤ 1000 := by simp only [List.length_cons, List.length_append]; omega
      show wpAny _ _ (call (.ref 93) [.ref xL]) _ _ _
      (rename News _ _ _ _ => N8)
      (rename Fr _ _ _ _ => F8)
      refine' Spec.use (rest := [(I1, citObj (.ref M1) _), (M1, methodObj (.ref 93) (.ref xL)), (pL, listOf #[] np)]) (hS _ _ hs9 hl9).spec ?kB F8 ?kX (kst_newsOf N8 sub_3) (apart_lt3 (hlt _ _ hs9) hMI) (atAll_nil _) (apart_nil _) ?kT ?kd ?ku ?_
      case kB => k_asm
      case kX => k_asm
      case kT => k_asm
      case kd => walk_at "m room"
      case ku => walk_at "m room"
      intro r5 lg5 h5 tk5 hP
      refine an2 hP ?_
      clear hP
      intro hs5 hP
      refine ex1 hP ?_
      clear hP
      intro t5 hr5
      have hr6 : r5 = .str (sg c0) t5 := hr5
      subst hr6
      clear hr5
      intro F5 N5 ap5
      replace N5 := kst_newsOf N5 sub_3'
      have m5 := hx _ _ hs5
      clear ap5 N8 F8
      dsimp only
      clear m1 m2
      k_steps
      refine hold_in ?_
      (rename News _ _ _ _ => N10)
      (rename Fr _ _ _ _ => F10)
      refine citRest_ind (fun k s' => ∃ tok ws' h' tk' m' lg' tt, tok ++ ws' = c0 :: ws ∧ ws'.length ≤ k ∧ s' = { s with heap := h', toks := tk' } ∧ Fr g1 L1 h' m' ∧ News g1 L1 h' ((I1, citObj (.ref M1) _) :: (M1, methodObj (.ref 93) (.ref xL)) :: (pL, listOf #[] np) :: lg') ∧ S (ws'.flatMap (fun c => [92, c]) ++ 10 :: rr) lg' ∧ m' (Str.ofString "token") = some (.str (strL tok) tt) ∧ m' (Str.ofString "self") = some (.ref xL) ∧ m' (Str.ofString "fiter") = some (.ref I1)) ?_ 64 ws.length _ (by omega) (in7 [c0] ws _ _ _ lg5 _ ⟨rfl, Nat.le_refl _, rfl, F10, N10, hs5, rfl, hm2, hm3⟩)
      clear F10 N10 hw hrd' m5
      intro k3 s7 hJ
      refine ex7 hJ ?_
      clear hJ
      intro tok ws3 h3' tk3 m3 lg3 tt3 hJ
      refine an9 hJ ?_
      clear hJ
      rintro htok hk3 rfl F3 N3 hs3 hm31 hm32 hm33
      have hwl := congrArg List.length htok
      simp only [List.length_append, List.length_cons] at hwl
      rcases ws3 with _ | ⟨c1, ws3⟩
      ·
        refine' nxt w hS hlt (I := I1) (M := M1) hMI (rs := 10 :: rr) hs3 ?hl ?kB F3 ?kX N3 ?kT ?kd ?ku ?q1 ?q0
        case hl => (simp only [List.length_cons]; omega)
        case kB => k_asm
        case kX => k_asm
        case kT => k_asm
        case kd => walk_at "m room"
        case ku => walk_at "m room"
        case q0 => intro e; cases e
        case q1 =>
          rintro ch rs2 heq h9 tk9 lg9 t9 F9 N9 hs9
          cases heq
          have m1 := hx _ _ hs9
          (refine ex2 (hd _ _ hs9) ?_; intro lv bl m2)
          walk_at "storeName"
          (try dsimp only)
          refine gen_Q ?_
          intro QB hQB
          k_steps
          refine hold_in ?_
          
          refine if_y ((ws_inL 10).mpr (.inl rfl)) ?_
          k_steps
          refine hQB _ _ ?_
          dsimp only [OwitFlow]
          refine hQA _ _ ?_
          dsimp only [OwitFlow]
          k_steps
          exact hret _ ((pL, listOf #[] np) :: lg9) _ _ ⟨lg9, rfl, hs9, _, by rw [← htok, List.append_nil]⟩ (by assumption) (news_pick (by assumption) (sub_skip (sub_skip sub_refl))) (apart_pick (by assumption) (sub_skip (sub_skip sub_refl)))
      ·
        refine' nxt w hS hlt (I := I1) (M := M1) hMI (rs := 92 :: c1 :: (ws3.flatMap (fun c => [92, c]) ++ 10 :: rr)) hs3 ?hl ?kB F3 ?kX N3 ?kT ?kd ?ku ?q1 ?q0
        case hl => (have := flat2_len ws3; simp only [List.length_cons, List.length_append] at hwl ⊢; omega)
        case kB => k_asm
        case kX => k_asm
        case kT => k_asm
        case kd => walk_at "m room"
        case ku => walk_at "m room"
        case q0 => intro e; cases e
        case q1 =>
          rintro ch rs2 heq h9 tk9 lg9 t9 F9 N9 hs9
          cases heq
          have m1 := hx _ _ hs9
          (refine ex2 (hd _ _ hs9) ?_; intro lv bl m2)
          walk_at "storeName"
          (try dsimp only)
          refine gen_Q ?_
          intro QB hQB
          k_steps
          refine hold_in ?_
          
          refine if_n (fun e => absurd ((ws_inL 92).mp e) (by decide)) ?_
          k_steps
          refine hold_in ?_
          refine if_t (by decide +kernel) ?_
          k_steps
          refine hold_in ?_
          have hadd3 : (strL tok).length + (sg c1).length ≤ 9000 := by rw [strL_length, sg_length]; omega
          have hl9 : (c1 :: (ws3.flatMap (fun c => [92, c]) ++ 10 :: rr)).length ≤ 1000 := by have := flat2_len ws3; simp only [List.length_cons, List.length_append] at hwl ⊢; omega
          show wpAny _ _ (call (.ref 93) [.ref xL]) _ _ _
          (rename News _ _ _ _ => N8)
          (rename Fr _ _ _ _ => F8)
          refine' Spec.use (rest := [(I1, citObj (.ref M1) _), (M1, methodObj (.ref 93) (.ref xL)), (pL, listOf #[] np)]) (hS _ _ hs9 hl9).spec ?kB F8 ?kX (kst_newsOf N8 sub_3) (apart_lt3 (hlt _ _ hs9) hMI) (atAll_nil _) (apart_nil _) ?kT ?kd ?ku ?_
          case kB => k_asm
          case kX => k_asm
          case kT => k_asm
          case kd => walk_at "m room"
          case ku => walk_at "m room"
          intro r5 lg5 h5 tk5 hP
          refine an2 hP ?_
          clear hP
          intro hs5 hP
          refine ex1 hP ?_
          clear hP
          intro t5 hr5
          have hr6 : r5 = .str (sg c1) t5 := hr5
          subst hr6
          clear hr5
          intro F5 N5 ap5
          replace N5 := kst_newsOf N5 sub_3'
          have m5 := hx _ _ hs5
          clear ap5 N8 F8
          dsimp only
          k_steps
          refine hQB _ _ ?_
          dsimp only [OwitFlow]
          (rename News _ _ _ _ => N10)
          (rename Fr _ _ _ _ => F10)
          exact ⟨k3 - 1, Nat.sub_one_lt_of_lt (Nat.lt_of_lt_of_le (Nat.succ_pos _) hk3), in7 (tok ++ [c1]) ws3 _ _ _ lg5 _ ⟨by rw [List.append_assoc]; exact htok, Nat.le_sub_one_of_lt hk3, rfl, F10, N10, hs5, by rw [← strL_append]; rfl, hm32, hm33⟩⟩
    · subst hch hrs
      refine if_n (fun e => absurd (hw.mp e) (by decide)) ?_
      k_steps
      refine hold_in ?_
      refine if_t (by decide +kernel) ?_
      k_steps
      refine hold_in ?_
      (rename News _ _ _ _ => N10)
      (rename Fr _ _ _ _ => F10)
      have h60' := h60
      have hQl := flatQ_len wd
      simp only [List.length_cons, List.length_append] at h60'
      refine citRest_ind (fun k s' => ∃ tok ws' h' tk' m' lg' tt, tok ++ ws' = wd ∧ (ws'.flatMap encQ).length ≤ 60 ∧ ws'.length ≤ k ∧ s' = { s with heap := h', toks := tk' } ∧ Fr g1 L1 h' m' ∧ News g1 L1 h' ((I1, citObj (.ref M1) _) :: (M1, methodObj (.ref 93) (.ref xL)) :: (pL, listOf #[] np) :: lg') ∧ S (ws'.flatMap encQ ++ 34 :: rr) lg' ∧ m' (Str.ofString "token") = some (.str (strL tok) tt) ∧ m' (Str.ofString "self") = some (.ref xL) ∧ m' (Str.ofString "fiter") = some (.ref I1)) ?_ 64 wd.length _ (by omega) (in7 [] wd _ _ _ lg9 _ ⟨rfl, by omega, Nat.le_refl _, rfl, F10, N10, hs9, hm1, hm2, hm3⟩)
      clear F10 N10 hw hrd' m1 m2
      intro k3 s7 hJ
      refine ex7 hJ ?_
      clear hJ
      intro tok ws3 h3' tk3 m3 lg3 tt3 hJ
      refine an10 hJ ?_
      clear hJ
      rintro htok hq60 hk3 rfl F3 N3 hs3 hm31 hm32 hm33
      have hwl := congrArg List.length htok
      simp only [List.length_append, List.length_cons] at hwl
      rcases ws3 with _ | ⟨c1, ws3⟩
      ·
        refine' nxt w hS hlt (I := I1) (M := M1) hMI (rs := 34 :: rr) hs3 ?hl ?kB F3 ?kX N3 ?kT ?kd ?ku ?q1 ?q0
        case hl => (simp only [List.length_cons]; omega)
        case kB => k_asm
        case kX => k_asm
        case kT => k_asm
        case kd => walk_at "m room"
        case ku => walk_at "m room"
        case q0 => intro e; cases e
        case q1 =>
          rintro ch rs2 heq h9 tk9 lg9 t9 F9 N9 hs9
          cases heq
          walk_at "storeName"
          (try dsimp only)
          refine gen_Q ?_
          intro QB hQB
          k_steps
          refine hold_in ?_
          refine if_t (by decide +kernel) ?_
          k_steps
          refine hQB _ _ ?_
          dsimp only [OwitFlow]
          refine hQA _ _ ?_
          dsimp only [OwitFlow]
          k_steps
          exact hret _ ((pL, listOf #[] np) :: lg9) _ _ ⟨lg9, rfl, hs9, _, by rw [← htok, List.append_nil]⟩ (by assumption) (news_pick (by assumption) (sub_skip (sub_skip sub_refl))) (apart_pick (by assumption) (sub_skip (sub_skip sub_refl)))
      · by_cases hq : c1 = 34 ∨ c1 = 92
        · have ee1 : (c1 :: ws3).flatMap encQ = 92 :: c1 :: ws3.flatMap encQ := by rw [List.flatMap_cons, encQ, if_pos hq]; rfl
          rw [ee1] at hs3 hq60
          rw [List.length_cons, List.length_cons] at hq60
          refine' nxt w hS hlt (I := I1) (M := M1) hMI (rs := 92 :: c1 :: (ws3.flatMap encQ ++ 34 :: rr)) hs3 ?hl ?kB F3 ?kX N3 ?kT ?kd ?ku ?q1 ?q0
          case hl => (simp only [List.length_cons, List.length_append] at hwl ⊢; omega)
          case kB => k_asm
          case kX => k_asm
          case kT => k_asm
          case kd => walk_at "m room"
          case ku => walk_at "m room"
          case q0 => intro e; cases e
          case q1 =>
            rintro ch rs2 heq h9 tk9 lg9 t9 F9 N9 hs9
            cases heq
            have m1 := hx _ _ hs9
            (refine ex2 (hd _ _ hs9) ?_; intro lv bl m2)
            walk_at "storeName"
            (try dsimp only)
            refine gen_Q ?_
            intro QB hQB
            k_steps
            refine hold_in ?_
            refine if_f (by decide +kernel) ?_
            k_steps
            refine hold_in ?_
            refine if_t (by decide +kernel) ?_
            k_steps
            refine hold_in ?_
            have hadd3 : (strL tok).length + (sg c1).length ≤ 9000 := by rw [strL_length, sg_length]; omega
            have hl9 : (c1 :: (ws3.flatMap encQ ++ 34 :: rr)).length ≤ 1000 := by simp only [List.length_cons, List.length_append] at hwl ⊢; omega
            show wpAny _ _ (call (.ref 93) [.ref xL]) _ _ _
            (rename News _ _ _ _ => N8)
            (rename Fr _ _ _ _ => F8)
            refine' Spec.use (rest := [(I1, citObj (.ref M1) _), (M1, methodObj (.ref 93) (.ref xL)), (pL, listOf #[] np)]) (hS _ _ hs9 hl9).spec ?kB F8 ?kX (kst_newsOf N8 sub_3) (apart_lt3 (hlt _ _ hs9) hMI) (atAll_nil _) (apart_nil _) ?kT ?kd ?ku ?_
            case kB => k_asm
            case kX => k_asm
            case kT => k_asm
            case kd => walk_at "m room"
            case ku => walk_at "m room"
            intro r5 lg5 h5 tk5 hP
            refine an2 hP ?_
            clear hP
            intro hs5 hP
            refine ex1 hP ?_
            clear hP
            intro t5 hr5
            have hr6 : r5 = .str (sg c1) t5 := hr5
            subst hr6
            clear hr5
            intro F5 N5 ap5
            replace N5 := kst_newsOf N5 sub_3'
            have m5 := hx _ _ hs5
            clear ap5 N8 F8
            dsimp only
            k_steps
            refine hQB _ _ ?_
            dsimp only [OwitFlow]
            (rename News _ _ _ _ => N10)
            (rename Fr _ _ _ _ => F10)
            exact ⟨k3 - 1, Nat.sub_one_lt_of_lt (Nat.lt_of_lt_of_le (Nat.succ_pos _) hk3), in7 (tok ++ [c1]) ws3 _ _ _ lg5 _ ⟨by rw [List.append_assoc]; exact htok, by omega, Nat.le_sub_one_of_lt hk3, rfl, F10, N10, hs5, by rw [← strL_append]; rfl, hm32, hm33⟩⟩
        · have ee1 : (c1 :: ws3).flatMap encQ = c1 :: ws3.flatMap encQ := by rw [List.flatMap_cons, encQ, if_neg hq]; rfl
          rw [ee1] at hs3 hq60
          rw [List.length_cons] at hq60
          refine' nxt w hS hlt (I := I1) (M := M1) hMI (rs := c1 :: (ws3.flatMap encQ ++ 34 :: rr)) hs3 ?hl ?kB F3 ?kX N3 ?kT ?kd ?ku ?q1 ?q0
          case hl => (simp only [List.length_cons, List.length_append] at hwl ⊢; omega)
          case kB => k_asm
          case kX => k_asm
          case kT => k_asm
          case kd => walk_at "m room"
          case ku => walk_at "m room"
          case q0 => intro e; cases e
          case q1 =>
            rintro ch rs2 heq h9 tk9 lg9 t9 F9 N9 hs9
            cases heq
            walk_at "storeName"
            (try dsimp only)
            refine gen_Q ?_
            intro QB hQB
            have hadd3 : (strL tok).length + (sg c1).length ≤ 9000 := by rw [strL_length, sg_length]; omega
            k_steps
            refine hold_in ?_
            refine if_f (q_ne (fun e => hq (.inl e))) ?_
            k_steps
            refine hold_in ?_
            refine if_f (bs_ne (fun e => hq (.inr e))) ?_
            k_steps
            refine hQB _ _ ?_
            dsimp only [OwitFlow]
            (rename News _ _ _ _ => N10)
            (rename Fr _ _ _ _ => F10)
            exact ⟨k3 - 1, Nat.sub_one_lt_of_lt (Nat.lt_of_lt_of_le (Nat.succ_pos _) hk3), in7 (tok ++ [c1]) ws3 _ _ _ lg9 _ ⟨by rw [List.append_assoc]; exact htok, by omega, Nat.le_sub_one_of_lt hk3, rfl, F10, N10, hs9, by rw [← strL_append]; rfl, hm32, hm33⟩⟩
theorem CSpec.repost {w : World} {f : Value} {vs : List Value} {D U : Nat} {ro foot : Led} {Post Post' : Value → Led → Prop} (S : CSpec w f vs D U ro foot Post) (hP : ∀ r nw, Post r nw → Post' r nw) : CSpec w f vs D U ro foot Post' := by
  intro p loose mean mg mb dp un gd cn nm g1 g2 mr a ccd cl outer A₀ base h₀ L m rest s Q E B F X N hap hro hdr T hd hu ret
  exact S _ _ _ _ _ _ _ _ _ _ _ _ _ _ _ _ _ _ _ _ _ _ rest _ _ _ B F X N hap hro hdr T hd hu (fun r new h' tk' hp => ret r new h' tk' (hP r new hp))
theorem Spec.refoot {w : World} {f : Value} {vs : List Value} {D U : Nat} {ro foot foot' : Led} {Post Post' : Value → Led → Prop} (S : Spec w f vs D U ro foot Post) (h1 : ∀ p ∈ foot, p ∈ foot') (hP : ∀ r nw, Post r nw → ∃ nw', Post' r nw' ∧ ∀ p ∈ nw', p ∈ nw) : Spec w f vs D U ro foot' Post' := by
  intro p loose mean mg mb dp un gd cn nm g1 g2 mr a ccd cl outer A₀ base h₀ L m rest s Q E B F X N hap hro hdr T hd hu ret
  refine S _ _ _ _ _ _ _ _ _ _ _ _ _ _ _ _ _ _ _ _ _ _ rest _ _ _ B F X (news_pick N h1) (apart_pick hap h1) hro (apart_mono hdr sub_refl h1) T hd hu ?_
  intro r new h' tk' hp F' N' ap'
  refine ex1 (hP r new hp) ?_
  intro nw' h9
  exact ret r nw' h' tk' h9.1 F' (news_pick N' h9.2) (apart_pick ap' h9.2)
theorem gtk_spec (w : World) {xS dS fG c D C pS : Addr} {oc oC : Obj} {doc pm ct : Value} {a1 b1 a2 a3 b3 a4 a5 : Tok} {params : Arguments} {body : List Stmt} {scope : Scope} {pos : Pos} {xL dL pL : Addr} {e1 e2 e3 f3 e4 : Tok} {vs : List Value} {rs wd rr : List Nat} {n np : Nat} {lv : Int} {bl : Tok} (hst : stmtOf (Str.ofString "_law_stream") 2 = .FunctionDef (Str.ofString "give") params body [] none [] scope none (Str.ofString "give") pos) (hoc : FnCode oc (Str.ofString "_law_stream.<locals>.give")) (hoC : oC.data = .cell (some (.ref D))) (hord : @LT.lt Nat _ 116 C ∧ @LT.lt Nat _ C D ∧ @LT.lt Nat _ D c ∧ @LT.lt Nat _ c fG ∧ @LT.lt Nat _ fG dS ∧ @LT.lt Nat _ dS xS ∧ @LT.lt Nat _ xS dL ∧ @LT.lt Nat _ dL xL ∧ @LT.lt Nat _ xL pL) (hv : StrsAre vs (rs.reverse.map sg)) (hl : rs.length ≤ 62) (hlv : 0 ≤ lv ∧ lv + rs.length ≤ 2000) (hrd : Reads rs wd rr) :
   Spec w (.ref 100) [.ref xL] 8 60 [] [(xL, instObj 110 dL), (dL, dictOf [{ hash := PyData.keyHash w.params (Str.ofString "lineno"), key := Value.str (Str.ofString "lineno") e1, val := Value.int (lv) bl }, { hash := PyData.keyHash w.params (Str.ofString "instream"), key := Value.str (Str.ofString "instream") e2, val := Value.ref xS }, { hash := PyData.keyHash w.params (Str.ofString "whitespace"), key := Value.str (Str.ofString "whitespace") e3, val := Value.str (Str.ofString "\n\t\r ") f3 }, { hash := PyData.keyHash w.params (Str.ofString "pushback"), key := Value.str (Str.ofString "pushback") e4, val := Value.ref pL }] 4), (pL, listOf #[] np), (xS, instObj 110 dS), (dS, dictOf [{ hash := PyData.keyHash w.params (Str.ofString "lineno"), key := Value.str (Str.ofString "lineno") a1, val := Value.int 1 b1 }, { hash := PyData.keyHash w.params (Str.ofString "instream"), key := Value.str (Str.ofString "instream") a2, val := Value.none }, { hash := PyData.keyHash w.params (Str.ofString "whitespace"), key := Value.str (Str.ofString "whitespace") a3, val := Value.str (Str.ofString "\n\t\r ") b3 }, { hash := PyData.keyHash w.params (Str.ofString "pushback"), key := Value.str (Str.ofString "pushback") a4, val := Value.ref pS }, { hash := PyData.keyHash w.params (Str.ofString "read"), key := Value.str (Str.ofString "read") a5, val := Value.ref fG }] 5), (fG, fnMade (Str.ofString "give") (Str.ofString "_law_stream.<locals>.give") params body scope [(Str.ofString "signs", C)] doc pm c ct), (c, oc), (D, listOf (List.toArray (vs)) n), (C, oC)]
     (fun r nw => ∃ vs' n' t' lv' bl', nw = [(xL, instObj 110 dL), (dL, dictOf [{ hash := PyData.keyHash w.params (Str.ofString "lineno"), key := Value.str (Str.ofString "lineno") e1, val := Value.int (lv') bl' }, { hash := PyData.keyHash w.params (Str.ofString "instream"), key := Value.str (Str.ofString "instream") e2, val := Value.ref xS }, { hash := PyData.keyHash w.params (Str.ofString "whitespace"), key := Value.str (Str.ofString "whitespace") e3, val := Value.str (Str.ofString "\n\t\r ") f3 }, { hash := PyData.keyHash w.params (Str.ofString "pushback"), key := Value.str (Str.ofString "pushback") e4, val := Value.ref pL }] 4), (pL, listOf #[] np), (xS, instObj 110 dS), (dS, dictOf [{ hash := PyData.keyHash w.params (Str.ofString "lineno"), key := Value.str (Str.ofString "lineno") a1, val := Value.int 1 b1 }, { hash := PyData.keyHash w.params (Str.ofString "instream"), key := Value.str (Str.ofString "instream") a2, val := Value.none }, { hash := PyData.keyHash w.params (Str.ofString "whitespace"), key := Value.str (Str.ofString "whitespace") a3, val := Value.str (Str.ofString "\n\t\r ") b3 }, { hash := PyData.keyHash w.params (Str.ofString "pushback"), key := Value.str (Str.ofString "pushback") a4, val := Value.ref pS }, { hash := PyData.keyHash w.params (Str.ofString "read"), key := Value.str (Str.ofString "read") a5, val := Value.ref fG }] 5), (fG, fnMade (Str.ofString "give") (Str.ofString "_law_stream.<locals>.give") params body scope [(Str.ofString "signs", C)] doc pm c ct), (c, oc), (D, listOf (List.toArray (vs')) n'), (C, oC)] ∧ StrsAre vs' (rr.reverse.map sg) ∧ r = .str (strL wd) t' ∧ 0 ≤ lv' ∧ lv' + rr.length ≤ 2000) := by
  refine Spec.refoot (gtkA w (xL := xL) (dL := dL) (pL := pL) (xS := xS) (e1 := e1) (e2 := e2) (e3 := e3) (f3 := f3) (e4 := e4) (S := fun rs lg => ∃ vs n lv bl, lg = [(xL, instObj 110 dL), (dL, dictOf [{ hash := PyData.keyHash w.params (Str.ofString "lineno"), key := Value.str (Str.ofString "lineno") e1, val := Value.int (lv) bl }, { hash := PyData.keyHash w.params (Str.ofString "instream"), key := Value.str (Str.ofString "instream") e2, val := Value.ref xS }, { hash := PyData.keyHash w.params (Str.ofString "whitespace"), key := Value.str (Str.ofString "whitespace") e3, val := Value.str (Str.ofString "\n\t\r ") f3 }, { hash := PyData.keyHash w.params (Str.ofString "pushback"), key := Value.str (Str.ofString "pushback") e4, val := Value.ref pL }] 4), (xS, instObj 110 dS), (dS, dictOf [{ hash := PyData.keyHash w.params (Str.ofString "lineno"), key := Value.str (Str.ofString "lineno") a1, val := Value.int 1 b1 }, { hash := PyData.keyHash w.params (Str.ofString "instream"), key := Value.str (Str.ofString "instream") a2, val := Value.none }, { hash := PyData.keyHash w.params (Str.ofString "whitespace"), key := Value.str (Str.ofString "whitespace") a3, val := Value.str (Str.ofString "\n\t\r ") b3 }, { hash := PyData.keyHash w.params (Str.ofString "pushback"), key := Value.str (Str.ofString "pushback") a4, val := Value.ref pS }, { hash := PyData.keyHash w.params (Str.ofString "read"), key := Value.str (Str.ofString "read") a5, val := Value.ref fG }] 5), (fG, fnMade (Str.ofString "give") (Str.ofString "_law_stream.<locals>.give") params body scope [(Str.ofString "signs", C)] doc pm c ct), (c, oc), (D, listOf (List.toArray (vs)) n), (C, oC)] ∧ StrsAre vs (rs.reverse.map sg) ∧ 0 ≤ lv ∧ lv + rs.length ≤ 2000) ?_ ?_ ?_ ?_ (in4 vs n lv bl ⟨rfl, hv, hlv⟩) hl hrd) (by walk_at "m sub") ?_
  · intro rs lg h hl
    refine ex4 h ?_
    rintro vs n lv bl ⟨rfl, hv, hlv⟩
    exact CSpec.repost (rdc_spec w (xS := xS) (dS := dS) (fG := fG) (c := c) (D := D) (C := C) (pS := pS) (oc := oc) (oC := oC) (doc := doc) (pm := pm) (ct := ct) (a1 := a1) (b1 := b1) (a2 := a2) (a3 := a3) (b3 := b3) (a4 := a4) (a5 := a5) (params := params) (body := body) (scope := scope) (pos := pos) (xL := xL) (dL := dL) (pL := pL) (e1 := e1) (e2 := e2) (e3 := e3) (f3 := f3) (e4 := e4) hst hoc hoC hord hv hl hlv) (fun r nw h => ex5 h fun vs' n' t' lv' bl' h => ⟨in4 vs' n' lv' bl' ⟨h.1, h.2.1, h.2.2.2⟩, t', h.2.2.1⟩)
  · intro rs lg h
    refine ex4 h ?_
    rintro vs n lv bl ⟨rfl, hv, hlv⟩
    simp only [List.forall_mem_cons]
    exact ⟨by omega, by omega, by omega, by omega, by omega, by omega, by omega, by omega, List.forall_mem_nil _⟩
  · intro rs lg h
    refine ex4 h ?_
    rintro vs n lv bl ⟨rfl, hv, hlv⟩
    exact .head _
  · intro rs lg h
    refine ex4 h ?_
    rintro vs n lv bl ⟨rfl, hv, hlv⟩
    exact ⟨lv, bl, .tail _ (.head _)⟩
  · intro r nw h
    refine ex1 h ?_
    intro lg9 h9
    refine an3 h9 ?_
    clear h9 h
    rintro rfl h ht
    refine ex1 ht ?_
    rintro t rfl
    refine ex4 h ?_
    rintro vs' n' lv' bl' ⟨rfl, hv', hlv'⟩
    exact ⟨[(xL, instObj 110 dL), (dL, dictOf [{ hash := PyData.keyHash w.params (Str.ofString "lineno"), key := Value.str (Str.ofString "lineno") e1, val := Value.int (lv') bl' }, { hash := PyData.keyHash w.params (Str.ofString "instream"), key := Value.str (Str.ofString "instream") e2, val := Value.ref xS }, { hash := PyData.keyHash w.params (Str.ofString "whitespace"), key := Value.str (Str.ofString "whitespace") e3, val := Value.str (Str.ofString "\n\t\r ") f3 }, { hash := PyData.keyHash w.params (Str.ofString "pushback"), key := Value.str (Str.ofString "pushback") e4, val := Value.ref pL }] 4), (pL, listOf #[] np), (xS, instObj 110 dS), (dS, dictOf [{ hash := PyData.keyHash w.params (Str.ofString "lineno"), key := Value.str (Str.ofString "lineno") a1, val := Value.int 1 b1 }, { hash := PyData.keyHash w.params (Str.ofString "instream"), key := Value.str (Str.ofString "instream") a2, val := Value.none }, { hash := PyData.keyHash w.params (Str.ofString "whitespace"), key := Value.str (Str.ofString "whitespace") a3, val := Value.str (Str.ofString "\n\t\r ") b3 }, { hash := PyData.keyHash w.params (Str.ofString "pushback"), key := Value.str (Str.ofString "pushback") a4, val := Value.ref pS }, { hash := PyData.keyHash w.params (Str.ofString "read"), key := Value.str (Str.ofString "read") a5, val := Value.ref fG }] 5), (fG, fnMade (Str.ofString "give") (Str.ofString "_law_stream.<locals>.give") params body scope [(Str.ofString "signs", C)] doc pm c ct), (c, oc), (D, listOf (List.toArray (vs')) n'), (C, oC)], in5 vs' n' t lv' bl' ⟨rfl, hv', rfl, hlv'⟩, by walk_at "m sub"⟩
end
theorem wOff_S_wri : True := by
  w_top off
  trivial
section
local macro_rules | `(tactic| walk_at "ListRest") => `(tactic| (k_here; refine hold_out ?_))
local macro_rules | `(tactic| walk_at "UnrEnd") => `(tactic| (k_here; refine hold_out ?_))
theorem wri_spec (w : World) (z o : Nat) (zero one : Str) (ln : Addr) (k : Nat) (a0 a1 a2 : Nat) (i0 i1 i2 : Int) (t1 t2 u0 u1 u2 : Tok) (hz : zero = sg z) (ho : one = sg o) (e0 : i0 = a0) (e1 : i1 = a1) (e2 : i2 = a2) (hn : a0 < 128 ∧ a1 < 128 ∧ a2 < 128) :
   Spec w (.ref 138) [.str zero t1, .str one t2, .ref ln] 3 40 [] [(ln, listOf #[.int i0 u0, .int i1 u1, .int i2 u2] k)] (fun r nw => nw = [(ln, listOf #[.int i0 u0, .int i1 u1, .int i2 u2] k)] ∧ ∃ t, r = .str (strL ([a0, a1, a2].flatMap (encWord z o))) t) := by
  unfold Spec
  k_fill
  intro p loose mean mg mb dp un gd cn nm g1 g2 mr a ccd cl outer A₀ base h₀ L m rest s Q E B F X N hap hro hdr T hdp hun hret
  walk_at "m enter"
  k_steps
  refine hold_in ?_
  refine listRest_ind (fun r m' n' => ∃ (az dz : List Nat) (tt tz tO : Tok), m' (Str.ofString "text") = some (.str (strL (dz.flatMap (encWord z o))) tt) ∧ m' (Str.ofString "zero") = some (.str zero tz) ∧ m' (Str.ofString "one") = some (.str one tO) ∧ n' = [(ln, listOf #[.int i0 u0, .int i1 u1, .int i2 u2] k)] ∧ dz ++ az = [a0, a1, a2] ∧ IntsAre r (az.map fun c : Nat => (c : Int))) ?_ ?_ _ _ _ ?_
  · (rintro v r m7 n7 hP9; refine ex5 hP9 ?_; clear hP9; intro az dz tt tz tO hP9; refine an6 hP9 ?_; clear hP9; rintro hm1 hm2 hm3 rfl hza hr; rintro it h tk hit F8 N8)
    rcases az with _ | ⟨c, az⟩
    · exact (ints_no hr).elim
    (refine ex1 (ints_hd hr) ?_; clear hr; intro td hP9; refine an2 hP9 ?_; clear hP9; rintro rfl hr)
    have hc : c < 128 := by
      have : c ∈ [a0, a1, a2] := by rw [← hza]; exact List.mem_append_right _ (.head _)
      simp only [List.mem_cons, List.not_mem_nil, or_false] at this
      omega
    k_steps
    refine hold_in ?_
    refine' Spec.use (rest := _) (word_spec w z o c zero one _ _ _ _ hz ho rfl hc) ?kB ?kF ?kX ?kN ?kap (atAll_nil _) ?kdr ?kT ?kd ?ku ?_
    case kB => k_asm
    case kF => k_asm
    case kX => k_asm
    case kT => k_asm
    case kN => exact N8
    case kap => exact apart_nil _
    case kdr => exact apart_nil _
    case kd => walk_at "m room"
    case ku => walk_at "m room"
    (refine postG ?_; intro G9 hG9; rintro r5 new5 h5 tk5 hP9; refine an2 hP9 ?_; clear hP9; rintro rfl hP9; refine ex1 hP9 ?_; clear hP9; intro t5 hP9; revert hP9; rintro rfl; refine hG9 _ _ _ _ ?_; clear hG9 G9; rintro F5 N5 ap5)
    simp only [List.nil_append] at N5
    dsimp only
    k_steps
    refine hold_in ?_
    have hws : (strL (wordL z o c)).cps.size ≤ sizeLine := by
      rw [sizeLine_eq]; show (wordL z o c).toArray.size ≤ _
      rw [List.size_toArray, wordL, List.length_cons, dig_len]; decide
    split
    · rename_i hc1
      rw [odd_cond] at hc1
      have hb : c / 64 % 2 = 1 := of_decide_eq_true hc1
      clear hc1
      k_steps
      refine gRest_ind (fun i ys nw => nw = _ ∧ StrsAre ys (((wordL z o c).take i).map fun c => strL [92, c])) ⟨rfl, .nil⟩ ?_ ?_
      · (refine postI ?_; intro G9 hG9; rintro i ys _ hi hP9; refine an2 hP9 ?_; clear hP9; rintro rfl hys; refine hG9 _ _ _ ?_; clear hG9 G9; refine postB ?_; intro G9 hG9; rintro C oC D m₂ h9 tk9 its E' hP9; refine ex1 hP9 ?_; clear hP9; intro v hP9; refine an2 hP9 ?_; clear hP9; intro hQ1 hmv; refine ex2 hQ1 ?_; clear hQ1; intro c9 u hP9; refine an2 hP9 ?_; clear hP9; rintro hc9 rfl; refine hG9 _ _ _ _ _ _ _ _ ?_; clear hG9 G9; rintro hNs hits F₁ N₁ ap)
        (refine ex1 (map1 hits) ?_; intro oI hP9; revert hP9; rintro rfl)
        simp only [List.cons_append, List.nil_append] at N₁
        have hci : (wordL z o c)[i]? = some c9 := by
          have e : (strL (wordL z o c)).cps[i]? = (wordL z o c)[i]? := by show (wordL z o c).toArray[i]? = _; simp
          rw [← e]; exact hc9
        have hbl := bs_len c9
        show wpAny _ _ _ _ _ _
        k_steps
        refine GEnd.intro F₁ N₁ ap trivial ⟨rfl, ?_⟩
        rw [take_snoc hci, List.map_append, List.map_singleton, ← bs_append]
        exact strs_snoc hys
      · (refine postE ?_; intro G9 hG9; rintro ys _ hP9; refine an2 hP9 ?_; clear hP9; rintro rfl hys; refine hG9 _ _ ?_; clear hG9 G9; rintro D h9 tk9 F₁ N₁ ap)
        have hsl : (strL (wordL z o c)).cps.size = (wordL z o c).length := by show (wordL z o c).toArray.size = _; simp
        rw [hsl, List.take_length] at hys
        k_steps
        refine m_joinE N₁ (.head _) hys ⟨?_, ?_⟩ ?_
        · rw [List.length_map, word_len]; decide
        · intro p hp
          (refine ex1 (List.mem_map.mp hp) ?_; intro c hP9; refine an2 hP9 ?_; clear hP9; rintro _ rfl)
          rw [strL_length]; show (2 : Nat) ≤ 10; decide
        rw [flat_enc]
        intro t9 k9
        dsimp only
        have hdz : dz.length ≤ 3 := by
          have := congrArg List.length hza
          rw [List.length_append] at this
          simp at this
          omega
        have hX : ((wordL z o c).flatMap fun c => [92, c]).length ≤ 14 := by
          have := flat_len (fun c => [92, c]) (fun _ => Nat.le_refl 2) (wordL z o c)
          rw [word_len] at this
          exact this
        have hT := encs_len z o dz
        have hl1 : (strL ((wordL z o c).flatMap fun c => [92, c])).length + (Str.ofString "\n").length ≤ 9000 := by
          rw [nl_str, strL_length, strL_length]; simp only [List.length_cons, List.length_nil]; omega
        have hl2 : (strL (dz.flatMap (encWord z o))).length + (strL ((wordL z o c).flatMap fun c => [92, c]) ++ Str.ofString "\n").length ≤ 9000 := by
          rw [nl_str, strL_append, strL_length, strL_length, List.length_append]; simp only [List.length_cons, List.length_nil]; omega
        have hen := enc_odd (o := o) (z := z) dz hb
        k_steps
        refine hold_in ?_
        (rename News _ _ _ _ => N10)
        (rename Fr _ _ _ _ => F10)
        exact UnrEnd.intro3 F10 N10 [(ln, listOf #[.int i0 u0, .int i1 u1, .int i2 u2] k)] (by k_mem) (by k_subL) (by k_offL) ⟨.head _, az, dz ++ [c], _, tz, tO, by rw [← hen]; rfl, hm2, hm3, rfl, by rw [List.append_assoc]; exact hza, hr⟩
    · rename_i hc1
      rw [odd_cond] at hc1
      have hb : ¬ c / 64 % 2 = 1 := fun e => hc1 (decide_eq_true e)
      clear hc1
      k_steps
      refine gRest_ind (fun i ys nw => nw = _ ∧ StrsAre ys (((wordL z o c).take i).map fun c => strL (encQ c))) ⟨rfl, .nil⟩ ?_ ?_
      · (refine postI ?_; intro G9 hG9; rintro i ys _ hi hP9; refine an2 hP9 ?_; clear hP9; rintro rfl hys; refine hG9 _ _ _ ?_; clear hG9 G9; refine postB ?_; intro G9 hG9; rintro C oC D m₂ h9 tk9 its E' hP9; refine ex1 hP9 ?_; clear hP9; intro v hP9; refine an2 hP9 ?_; clear hP9; intro hQ2 hmv; refine ex2 hQ2 ?_; clear hQ2; intro c9 u hP9; refine an2 hP9 ?_; clear hP9; rintro hc9 rfl; refine hG9 _ _ _ _ _ _ _ _ ?_; clear hG9 G9; rintro hNs hits F₁ N₁ ap)
        (refine ex1 (map1 hits) ?_; intro oI hP9; revert hP9; rintro rfl)
        simp only [List.cons_append, List.nil_append] at N₁
        have hci : (wordL z o c)[i]? = some c9 := by
          have e : (strL (wordL z o c)).cps[i]? = (wordL z o c)[i]? := by show (wordL z o c).toArray[i]? = _; simp
          rw [← e]; exact hc9
        have hbl := bs_len c9
        show wpAny _ _ _ _ _ _
        k_steps
        refine hold_in ?_
        rw [show ((Str.ofString "\"\\").length) = 2 from (by decide +kernel)]
        have hfo := q_in c9
        split
        · rename_i hc1
          have hcc : c9 = 34 ∨ c9 = 92 := hfo.mp hc1
          clear hc1 hfo
          k_steps
          refine GEnd.intro F₁ N₁ ap trivial ⟨rfl, ?_⟩
          rw [take_snoc hci, List.map_append, List.map_singleton, encQ, if_pos hcc, ← bs_append]
          exact strs_snoc hys
        · rename_i hc1
          have hcc : ¬ (c9 = 34 ∨ c9 = 92) := fun e => hc1 (hfo.mpr e)
          clear hc1 hfo
          k_steps
          refine GEnd.intro F₁ N₁ ap trivial ⟨rfl, ?_⟩
          rw [take_snoc hci, List.map_append, List.map_singleton, encQ, if_neg hcc]
          exact strs_snoc hys
      · (refine postE ?_; intro G9 hG9; rintro ys _ hP9; refine an2 hP9 ?_; clear hP9; rintro rfl hys; refine hG9 _ _ ?_; clear hG9 G9; rintro D h9 tk9 F₁ N₁ ap)
        have hsl : (strL (wordL z o c)).cps.size = (wordL z o c).length := by show (wordL z o c).toArray.size = _; simp
        rw [hsl, List.take_length] at hys
        k_steps
        refine m_joinE N₁ (.head _) hys ⟨?_, ?_⟩ ?_
        · rw [List.length_map, word_len]; decide
        · intro p hp
          (refine ex1 (List.mem_map.mp hp) ?_; intro c hP9; refine an2 hP9 ?_; clear hP9; rintro _ rfl)
          rw [strL_length]; exact Nat.le_trans (encQ_len c) (by decide)
        rw [flat_enc]
        intro t9 k9
        dsimp only
        have hdz : dz.length ≤ 3 := by
          have := congrArg List.length hza
          rw [List.length_append] at this
          simp at this
          omega
        have hX : ((wordL z o c).flatMap encQ).length ≤ 14 := by
          have := flat_len encQ encQ_len (wordL z o c)
          rw [word_len] at this
          exact this
        have hT := encs_len z o dz
        have hl1 : (Str.ofString "\"").length + (strL ((wordL z o c).flatMap encQ)).length ≤ 9000 := by
          rw [q_str, strL_length, strL_length]; simp only [List.length_cons, List.length_nil]; omega
        have hl2 : (Str.ofString "\"" ++ strL ((wordL z o c).flatMap encQ)).length + (Str.ofString "\"\n").length ≤ 9000 := by
          rw [q_str, qn_str, strL_append, strL_length, strL_length, List.length_append]; simp only [List.length_cons, List.length_nil]; omega
        have hl3 : (strL (dz.flatMap (encWord z o))).length + (Str.ofString "\"" ++ strL ((wordL z o c).flatMap encQ) ++ Str.ofString "\"\n").length ≤ 9000 := by
          rw [q_str, qn_str, strL_append, strL_append, strL_length, strL_length, List.length_append, List.length_append]; simp only [List.length_cons, List.length_nil]; omega
        have hen := enc_even (o := o) (z := z) dz hb
        k_steps
        refine hold_in ?_
        (rename News _ _ _ _ => N10)
        (rename Fr _ _ _ _ => F10)
        exact UnrEnd.intro3 F10 N10 [(ln, listOf #[.int i0 u0, .int i1 u1, .int i2 u2] k)] (by k_mem) (by k_subL) (by k_offL) ⟨.head _, az, dz ++ [c], _, tz, tO, by rw [← hen]; rfl, hm2, hm3, rfl, by rw [List.append_assoc]; exact hza, hr⟩
  · (rintro m7 n7 hP9; refine ex5 hP9 ?_; clear hP9; intro az dz tt tz tO hP9; refine an6 hP9 ?_; clear hP9; rintro hm1 hm2 hm3 rfl hza hr; rintro h tk F8 N8)
    k_steps
    have hz0 : az = [] := by
      have := IntsAre.length hr
      rw [List.length_map] at this
      exact List.eq_nil_of_length_eq_zero this.symm
    rw [hz0, List.append_nil] at hza
    rw [hza]
    exact hret _ _ _ _ ⟨rfl, _, rfl⟩ (by assumption) (by assumption) (by assumption)
  · have h0 : Str.ofString "" = strL (([] : List Nat).flatMap (encWord z o)) := (by decide +kernel : Str.ofString "" = strL [])
    exact ⟨[a0, a1, a2], [], _, _, _, congrArg (fun s => some (Value.str s _)) h0, rfl, rfl, rfl, rfl, by rw [e0, e1, e2]; exact .cons _ _ (.cons _ _ (.cons _ _ .nil))⟩
end
end
theorem wOff_S_d2n : True := by
  w_top off
  trivial
theorem d2n_spec (w : World) (x : Int) (t1 t2 t3 : Tok) (hx : 0 ≤ x ∧ x < 2^60) :
   Spec w (.ref 30) [.int x t1, .int 317811 t2, .int 19 t3] 1 8 [] [] (fun r nw => ∃ tr t5 t6 nr, r = .ref tr ∧ nw = [(tr, tupOf [.int (x.fdiv 317811) t5, .int (x.fmod 317811) t6] nr)]) := by
  unfold Spec
  k_fill
  intro p loose mean mg mb dp un gd cn nm g1 g2 mr a ccd cl outer A₀ base h₀ L m rest s Q E B F X N hap hro hdr T hdp hun hret
  walk_at "m enter"
  have hb := intBits_le_64 (k := x) (by omega) (by omega)
  k_steps
  exact hret _ _ _ _ ⟨_, _, _, _, rfl, rfl⟩ (by assumption) (by assumption) (by assumption)
section
local macro_rules | `(tactic| walk_at "call ref") => `(tactic| (k_here; refine hold_out ?_))
theorem wOff_S_dmp : True := by
  w_top off
  trivial
section
local macro_rules | `(tactic| walk_at "RevRest") => `(tactic| (k_here; refine hold_out ?_))
theorem dmp_spec (w : World) (x : Nat) (xi : Int) (t1 t2 : Tok) (hxi : xi = x) (hx : x < 2 ^ 38) (tabI tabD : Led) (hI : Tab 39 (Str.ofString "_int2digits.<locals>.inner") 53 4 tabI) (hD : Tab 46 (Str.ofString "_digits2int.<locals>.inner") 68 4 tabD) (hab : Apart tabI tabD) :
   Spec w (.ref 58) [.int xi t1, .int 317811 t2] 40 600 [] (tabI ++ tabD) (fun r nw => ∃ tr t5 t6 nr tabI' tabD', r = .ref tr ∧ nw = (tr, tupOf [.int ((x / 317811 : Nat) : Int) t5, .int ((x % 317811 : Nat) : Int) t6] nr) :: (tabI' ++ tabD') ∧ Tab 39 (Str.ofString "_int2digits.<locals>.inner") 53 4 tabI' ∧ Tab 46 (Str.ofString "_digits2int.<locals>.inner") 68 4 tabD' ∧ Apart tabI' tabD') := by
  unfold Spec
  k_fill
  intro p loose mean mg mb dp un gd cn nm g1 g2 mr a ccd cl outer A₀ base h₀ L m rest s Q E B F X N hap hro hdr T hdp hun hret
  walk_at "m enter"
  k_steps
  refine hold_in ?_
  refine' Spec.use (rest := tabD) (i2d_spec w x 19 25 xi _ _ _ hxi rfl (by decide) ?hx (Nat.le_refl _) tabI hI) ?kB ?kF ?kX ?kN ?kap (atAll_nil _) ?kdr ?kT ?kd ?ku ?_
  case hx => exact Nat.lt_of_lt_of_le hx (Nat.pow_le_pow_right (by decide) (by decide))
  case kB => k_asm
  case kF => k_asm
  case kX => k_asm
  case kT => k_asm
  case kN => assumption
  case kap => exact hab
  case kdr => exact apart_nil _
  case kd => walk_at "m room"
  case ku => walk_at "m room"
  (refine postG ?_; intro G9 hG9; rintro r new h1 tk1 hP9; refine ex5 hP9 ?_; clear hP9; intro D vs ns n1 tabI1 hP9; refine an6 hP9 ?_; clear hP9; rintro rfl rfl hI1 hvn hnl hdg; refine hG9 _ _ _ _ ?_; clear hG9 G9; rintro F1 N1 ap1)
  simp only [List.cons_append] at N1
  dsimp only
  k_steps

  rename_i g9 L9 ha FG9 B9 X9 T9 RO9 tka hb hc tkb hd lq he l2 hf D9 hg F7 N7 l3
  refine iter_revUnr (by rfl) F7 N7 ?hoff (by k_mem) (by rfl) (by rfl) ?_
  case hoff => refine ⟨.inl (neN (by omega)), .inl (neN (by omega)), offI_lt fun p hp => ?_⟩; exact allLt_mem l3.2.2 p hp
  refine revRest_ind (fun r m' n' => ∃ vq qs nq i rr tr tb tn, m' (Str.ofString "q_digits") = some (.ref lq) ∧ m' (Str.ofString "r") = some (.int rr tr) ∧ m' (Str.ofString "b") = some (.int 317811 tb) ∧ m' (Str.ofString "n") = some (.int 19 tn) ∧ n' = (lq, listOf (List.toArray vq) nq) :: (D, listOf vs.toArray n1) :: (tabI1 ++ tabD) ∧ IntsAre vq qs ∧ qs.length + i = ns.length ∧ IntsAre r (ns.take i).reverse ∧ DivInv x i rr qs) ?_ ?_ _ _ _ (in8 [] [] 0 ns.length 0 _ _ _ ⟨rfl, rfl, rfl, rfl, rfl, .nil, by simp, ?_, div_start hdg⟩)
  · (rintro v r m7 n7 hP9; refine ex8 hP9 ?_; clear hP9; intro vq qs nq i rr tr tb tn hP9; refine an9 hP9 ?_; clear hP9; rintro hm1 hm2 hm3 hm4 rfl hvq hqi hr hinv; rintro it h tk hit F8 N8)
    rcases i with _ | i
    · exact (ints_no hr).elim
    rw [rev_take ns i (by omega)] at hr
    (refine ex1 (ints_hd hr) ?_; clear hr; intro td hP9; refine an2 hP9 ?_; clear hP9; rintro rfl hr)
    have hrr := div_rr hinv
    have hlv := IntsAre.length hvq
    have hql : qs.length ≤ 25 := by omega
    (refine an3 (div_step hdg hinv) ?_; intro hz0 hz1 hinv')
    have hb1 := intBits_le_64 (k := rr) (by omega) (by omega)
    have hb2 : (Builtin.Int.intBits rr : Int) + 19 ≤ 2 ^ 27 := by omega
    have hb3 : (0 : Int) ≤ 19 := by decide
    k_steps
    refine hold_in ?_
    refine' Spec.use (rest := _) (d2n_spec w (rr * 2 ^ Int.toNat 19 + ns.getD i 0) _ _ _ ⟨hz0, hz1⟩) ?kB ?kF ?kX ?kN ?kap (atAll_nil _) ?kdr ?kT ?kd ?ku ?_
    case kB => k_asm
    case kF => k_asm
    case kX => k_asm
    case kT => k_asm
    case kN => exact N8
    case kap => exact apart_nil _
    case kdr => exact apart_nil _
    case kd => walk_at "m room"
    case ku => walk_at "m room"
    (refine postG ?_; intro G9 hG9; rintro r5 new5 h5 tk5 hP9; refine ex4 hP9 ?_; clear hP9; intro tr5 t5 t6 nr5 hP9; refine an2 hP9 ?_; clear hP9; rintro rfl rfl; refine hG9 _ _ _ _ ?_; clear hG9 G9; rintro F5 N5 ap5)
    have hne5 : @Ne Nat tr5 lq := ap5 _ (.head _) _ (.tail _ (.head _))
    simp only [List.cons_append, List.nil_append] at N5
    k_steps
    (rename News _ _ _ _ => N10)
    (rename Fr _ _ _ _ => F10)
    have hoff : ∀ p ∈ ((lq, listOf (vq.toArray.push (.int ((rr * 2 ^ Int.toNat 19 + ns.getD i 0).fdiv 317811) t5)) (nq + 1)) :: (D, listOf vs.toArray n1) :: (tabI1 ++ tabD) : Led), p.1 ≠ D9 := fun p hp => Nat.ne_of_lt (allLt_mem (b := (lq, listOf (vq.toArray.push (.int ((rr * 2 ^ Int.toNat 19 + ns.getD i 0).fdiv 317811) t5)) (nq + 1)) :: (D, listOf vs.toArray n1) :: (tabI1 ++ tabD)) l3 p hp)
    exact UnrEnd.intro F10 N10 _ (fun p hp => .tail _ hp) hoff ⟨.tail _ (.head _), in8 (vq.toArray.push (.int ((rr * 2 ^ Int.toNat 19 + ns.getD i 0).fdiv 317811) t5)).toList _ (nq + 1) i _ t6 tb tn ⟨hm1, rfl, hm3, hm4, rfl, ints_push hvq rfl, by rw [List.length_append, List.length_singleton]; omega, hr, hinv'⟩⟩
  · (rintro m7 n7 hP9; refine ex8 hP9 ?_; clear hP9; intro vq qs nq i rr tr tb tn hP9; refine an9 hP9 ?_; clear hP9; rintro hm1 hm2 hm3 hm4 rfl hvq hqi hr hinv; rintro h tk F8 N8)
    have hlv := IntsAre.length hvq
    have hvql : vq.length ≤ 10000 := by omega
    have hi0 : i = 0 := by
      have := IntsAre.length hr
      rw [List.length_reverse, List.length_take] at this
      have e : ([] : List Value).length = 0 := rfl
      omega
    subst hi0
    (refine an3 (div_end hinv) ?_; rintro rfl hqv hqd)
    k_steps
    refine hold_in ?_
    refine' Spec.use (rest := tabI1) (d2i_spec w 19 _ lq vq.reverse qs.reverse nq _ rfl (by decide) (ints_reverse hvq) (by rw [List.length_reverse]; omega) hqd tabD hD) ?kB ?kF ?kX ?kN ?kap ?kro ?kdr ?kT ?kd ?ku ?_
    case kB => k_asm
    case kF => k_asm
    case kX => k_asm
    case kT => k_asm
    case kN => (rename News _ _ _ _ => N9); exact kst_newsOf N9 fun p hp => (List.mem_append.mp hp).elim (fun h => .tail _ (.tail _ (List.mem_append_right _ h))) fun h => .tail _ (.tail _ (List.mem_append_left _ h))
    case kap => exact apart_symm (apart_tl ap1)
    case kro => (rename News _ _ _ _ => N9); exact atAll_cons (N9 _ (.head _)).1 (atAll_nil _)
    case kdr => exact apart_cons (fun p hp => allLt_ne l2.2 p (List.mem_append_right _ hp)) (apart_nil _)
    case kd => walk_at "m room"
    case ku => walk_at "m room"
    (refine postG ?_; intro G9 hG9; rintro r5 new5 h5 tk5 hP9; refine an2 hP9 ?_; clear hP9; intro hQ1 hD5; refine ex1 hQ1 ?_; clear hQ1; intro t5 hP9; revert hP9; intro hr5; refine hG9 _ _ _ _ ?_; clear hG9 G9; rintro F5 N5 ap5)
    rw [hqv] at hr5
    subst hr5
    dsimp only
    k_steps
    refine hret _ _ _ _ (in6 _ t5 tr 0 tabI1 new5 ⟨rfl, rfl, hI1, hD5, apart_symm ap5⟩) (by assumption) (news_pick (by assumption) ?s1) (apart_pick (by assumption) ?s2)
    case s1 => exact fun p hp => (List.mem_cons.mp hp).elim (fun e => e ▸ .head _) fun hp => .tail _ ((List.mem_append.mp hp).elim (fun h => List.mem_append_right _ h) fun h => List.mem_append_left _ h)
    case s2 => exact fun p hp => (List.mem_cons.mp hp).elim (fun e => e ▸ .head _) fun hp => .tail _ ((List.mem_append.mp hp).elim (fun h => List.mem_append_right _ h) fun h => List.mem_append_left _ h)
  · rw [List.take_length]; exact ints_reverse hvn
end
theorem wOff_S_idm : True := by
  w_top off
  trivial
section
theorem idm_spec (w : World) (x : Nat) (xi : Int) (t1 t2 : Tok) (hxi : xi = x) (hx : x < 2 ^ 38) (tabI tabD : Led) (hI : Tab 39 (Str.ofString "_int2digits.<locals>.inner") 53 4 tabI) (hD : Tab 46 (Str.ofString "_digits2int.<locals>.inner") 68 4 tabD) (hab : Apart tabI tabD) :
   Spec w (.ref 65) [.int xi t1, .int 317811 t2] 41 616 [] (tabI ++ tabD) (fun r nw => ∃ tr t5 t6 nr tabI' tabD', r = .ref tr ∧ nw = (tr, tupOf [.int ((x / 317811 : Nat) : Int) t5, .int ((x % 317811 : Nat) : Int) t6] nr) :: (tabI' ++ tabD') ∧ Tab 39 (Str.ofString "_int2digits.<locals>.inner") 53 4 tabI' ∧ Tab 46 (Str.ofString "_digits2int.<locals>.inner") 68 4 tabD' ∧ Apart tabI' tabD') := by
  have hx0 : 0 ≤ xi := by omega
  unfold Spec
  k_fill
  intro p loose mean mg mb dp un gd cn nm g1 g2 mr a ccd cl outer A₀ base h₀ L m rest s Q E B F X N hap hro hdr T hdp hun hret
  walk_at "m enter"
  k_steps
  refine hold_in ?_
  refine' Spec.use (rest := []) (dmp_spec w x xi _ _ hxi hx tabI tabD hI hD hab) ?kB ?kF ?kX ?kN ?kap (atAll_nil _) ?kdr ?kT ?kd ?ku ?_
  case kB => k_asm
  case kF => k_asm
  case kX => k_asm
  case kT => k_asm
  case kN => rw [List.append_nil]; assumption
  case kap => exact apart_nil' _
  case kdr => exact apart_nil _
  case kd => walk_at "m room"
  case ku => walk_at "m room"
  (refine postG ?_; intro G9 hG9; rintro r5 new5 h5 tk5 hP9; refine ex6 hP9 ?_; clear hP9; intro tr5 t5 t6 nr5 tI tD hP9; refine an5 hP9 ?_; clear hP9; rintro rfl rfl hI5 hD5 hab5; refine hG9 _ _ _ _ ?_; clear hG9 G9; rintro F5 N5 ap5)
  rw [List.append_nil] at N5
  dsimp only
  k_steps
  exact hret _ _ _ _ ⟨_, _, _, _, _, _, rfl, rfl, hI5, hD5, hab5⟩ (by assumption) (by assumption) (by assumption)
end
theorem wOff_S_quo : True := by
  w_top off
  trivial
section
theorem quo_spec (w : World) (n : Nat) (ni : Int) (ls : Addr) (vs : List Value) (n1 : Nat) (t1 : Tok) (hni : ni = n) (hn : n < 1000000) (hS : IntsAre vs stepsL) (tabI tabD : Led) (hI : Tab 39 (Str.ofString "_int2digits.<locals>.inner") 53 4 tabI) (hD : Tab 46 (Str.ofString "_digits2int.<locals>.inner") 68 4 tabD) (hab : Apart tabI tabD) :
   Spec w (.ref 181) [.ref ls, .int ni t1] 42 632 [(ls, listOf vs.toArray n1)] (tabI ++ tabD) (fun r nw => ∃ tr t5 t6 nr tabI' tabD', r = .ref tr ∧ nw = (tr, tupOf [.int ni t5, .int (((n + 1) * 196418 / 317811 : Nat) : Int) t6] nr) :: (tabI' ++ tabD') ∧ Tab 39 (Str.ofString "_int2digits.<locals>.inner") 53 4 tabI' ∧ Tab 46 (Str.ofString "_digits2int.<locals>.inner") 68 4 tabD' ∧ Apart tabI' tabD') := by
  unfold Spec
  k_fill
  intro p loose mean mg mb dp un gd cn nm g1 g2 mr a ccd cl outer A₀ base h₀ L m rest s Q E B F X N hap hro hdr T hdp hun hret
  walk_at "m enter"
  (rename AtAll _ _ => RO')
  have hL9 := isList_of RO' (List.Mem.head _)
  have hle : stepsL.length = 27 := rfl
  k_steps
  refine hold_in ?_
  have hxx : (ni + 1) * stepsL.getD (Int.toNat 25) 0 = (((n + 1) * 196418 : Nat) : Int) := by
    rw [show stepsL.getD (Int.toNat 25) 0 = 196418 from rfl, hni]; omega
  refine' Spec.use (rest := []) (idm_spec w ((n + 1) * 196418) ((ni + 1) * stepsL.getD (Int.toNat 25) 0) _ _ hxx (by omega) tabI tabD hI hD hab) ?kB ?kF ?kX ?kN ?kap (atAll_nil _) ?kdr ?kT ?kd ?ku ?_
  case kB => k_asm
  case kF => k_asm
  case kX => k_asm
  case kT => k_asm
  case kN => rw [List.append_nil]; assumption
  case kap => exact apart_nil' _
  case kdr => exact apart_nil _
  case kd => walk_at "m room"
  case ku => walk_at "m room"
  (refine postG ?_; intro G9 hG9; rintro r5 new5 h5 tk5 hP9; refine ex6 hP9 ?_; clear hP9; intro tr5 t5 t6 nr5 tI tD hP9; refine an5 hP9 ?_; clear hP9; rintro rfl rfl hI5 hD5 hab5; refine hG9 _ _ _ _ ?_; clear hG9 G9; rintro F5 N5 ap5)
  rw [List.append_nil] at N5
  dsimp only
  k_steps
  refine hret _ _ _ _ ⟨_, t1, t5, 0, tI, tD, rfl, rfl, hI5, hD5, hab5⟩ (by assumption) (news_pick (by assumption) ?s1) (apart_pick (by assumption) ?s2)
  case s1 => exact fun p hp => (List.mem_cons.mp hp).elim (fun e => e ▸ .head _) fun h => .tail _ (.tail _ h)
  case s2 => exact fun p hp => (List.mem_cons.mp hp).elim (fun e => e ▸ .head _) fun h => .tail _ (.tail _ h)
end
theorem wOff_S_la : True := by
  w_top off
  trivial
section
local macro_rules | `(tactic| walk_at "subscriptTail Name Slice ref ref") => `(tactic| (k_here; (with_reducible show wpAny _ _ (subscriptTail _ (PySem.Expr.Slice _ _ (some _) _) (Value.ref _) (Value.ref _)) _ _ _); k_dflt (refine' m_slice3 ?F ?N ?l ?p ?q ?k ?o ?hI ?hx ?_ ?s ?t; (case F => k_asm); (case N => k_asm); (case l => kmk_list); (case p => kmk_part); (case q => kmk_part); (case k => kmk_part); (case o => decide); (case hI => assumption); (case hx => assumption); (case s => with_unfolding_all rfl); (case t => kmk_pure)); intro D' h' zs' ms' hzs' hms' F' N' l1; (try k_lt l1); (try k_sweep)))
theorem la {s0 s1 s2 s3 s4 : Stmt} (b0 : lawBody[0]? = some s0) (b1 : lawBody[1]? = some s1) (b2 : lawBody[2]? = some s2) (b3 : lawBody[3]? = some s3) (b4 : lawBody[4]? = some s4) (w : World) {lscope : Scope} {A fa : Addr} {cd : Value} (hsc : lawScope = lscope) {p : Program} {loose : List Str} {mean : ExcName → Option Value} {mg mb : Str → Option Value} {g : Heap} (B : Below callerA g [] g) (X : (Mine.hd.heap_39 w.params).In g) (T : Top p loose mean mg mb g) {R1 : Value → Shared → Prop} {Q : Flow → Shared → Prop} {s : Shared} {m : Str → Option Value} (F : Fr g A s.heap m) {o1 o2 o3 o4 o5 o6 : Obj} {ls : Addr} {vs : List Value} {xs : List Int}
   (N : News g A s.heap [(A + 1 + 1 + 1 + 1 + 1 + 1, o6), (A + 1 + 1 + 1 + 1 + 1, o5), (A + 1 + 1 + 1 + 1, o4), (A + 1 + 1 + 1, o3), (A + 1 + 1, o2), (A + 1, o1), (116, tabObj #[]), (46, tabObj #[]), (39, tabObj #[])])
   (d1 : o1.data = .cell (some (.ref ls))) (d2 : o2.data = .cell none) (d3 : o3.data = .cell none) (d4 : o4.data = .cell none) (hls : g.IsList ls vs.toArray) (hI : IntsAre vs xs) (hxl : xs.length ≤ 63) (hA : @LT.lt Nat _ 116 A ∧ @LT.lt Nat _ 46 A ∧ @LT.lt Nat _ 39 A)
   (K : ∀ (p : Nat × Nat) (lT lN : Addr) (vsT vsN : List Value) (nT nN : Nat) (ns : List Int) (o2 o3 o4 : Obj) (u3 u4 : Tok) (h' : Heap) (tk' : Nat) (m' : Str → Option Value), p ∈ zoL → IntsAre vsT stepsL → IntsAre vsN ns → ns.length = 3 → (∀ n ∈ ns, 0 ≤ n ∧ n < 128) → Fr g A h' m' →
      News g A h' [(lN, listOf (List.toArray vsN) nN), (lT, listOf (List.toArray vsT) nT), (A + 1 + 1 + 1 + 1 + 1 + 1, o6), (A + 1 + 1 + 1 + 1 + 1, o5), (A + 1 + 1 + 1 + 1, o4), (A + 1 + 1 + 1, o3), (A + 1 + 1, o2), (A + 1, o1), (116, tabObj #[]), (46, tabObj #[]), (39, tabObj #[])] →
      o2.data = .cell (some (.ref lT)) → o3.data = .cell (some (.str (sg p.1) u3)) → o4.data = .cell (some (.str (sg p.2) u4)) → m' (Str.ofString "numbers") = some (.ref lN) → AptA [lN] [lT, A + 1 + 1 + 1 + 1 + 1 + 1, A + 1 + 1 + 1 + 1 + 1, A + 1 + 1 + 1 + 1, A + 1 + 1 + 1, A + 1 + 1, A + 1, 116, 46, 39] → AptA [lT] [A + 1 + 1 + 1 + 1 + 1 + 1, A + 1 + 1 + 1 + 1 + 1, A + 1 + 1 + 1 + 1, A + 1 + 1 + 1, A + 1 + 1, A + 1, 116, 46, 39] → Q .next { s with heap := h', toks := tk' }) :
   wpAny (model PySem.Challenge.rw_sw0064_01.row.prog w) (callerA.deeper (envOfC (Str.ofString "law") lscope A fa cd)) (execs [s0, s1, s2, s3, s4] (envOfC (Str.ofString "law") lscope A fa cd)) Q (fun e s' => wpAny (model PySem.Challenge.rw_sw0064_01.row.prog w) (callerA.deeper (envOfC (Str.ofString "law") lscope A fa cd)) (leaving (envOfC (Str.ofString "law") lscope A fa cd) e) (fun _ s'' => R1 e s'') (fun e' s'' => R1 e' s'') s') s := by
  change some _ = _ at b0
  replace b0 := Option.some.inj b0
  subst b0
  change some _ = _ at b1
  replace b1 := Option.some.inj b1
  subst b1
  change some _ = _ at b2
  replace b2 := Option.some.inj b2
  subst b2
  change some _ = _ at b3
  replace b3 := Option.some.inj b3
  subst b3
  change some _ = _ at b4
  replace b4 := Option.some.inj b4
  subst b4
  change Scope.mk _ _ _ _ _ = _ at hsc
  cases hsc
  revert X
  k_fill
  intro X
  k_steps
  refine hold_in ?_
  refine' Spec.use (rest := _) (steps_spec w) ?kB ?kF ?kX ?kN ?kap (atAll_nil _) ?kdr ?kT ?kd ?ku ?_
  case kB => k_asm
  case kF => k_asm
  case kX => k_asm
  case kT => k_asm
  case kN => exact N
  case kap => exact apart_nil _
  case kdr => exact apart_nil _
  case kd => decide +kernel
  case ku => decide +kernel
  (refine postG ?_; intro G9 hG9; rintro r1 new1 h1 tk1 hP9; refine ex3 hP9 ?_; clear hP9; intro D1 vsT nT hP9; refine an3 hP9 ?_; clear hP9; rintro rfl rfl hT; refine hG9 _ _ _ _ ?_; clear hG9 G9; rintro F1 N1 ap1)
  simp only [List.cons_append, List.nil_append] at N1
  dsimp only
  have q1 : @Ne Nat D1 (A + 1 + 1) := ap1 _ (.head _) _ (.tail _ (.tail _ (.tail _ (.tail _ (.head _)))))
  k_steps
  refine gRest_ind (fun i ys nw => nw = _ ∧ ∃ ns : List Int, IntsAre ys ns ∧ ns.length = i ∧ ∀ n ∈ ns, 0 ≤ n ∧ n < 128) ⟨rfl, [], .nil, rfl, fun n hn => nomatch hn⟩ ?_ ?_
  · (refine postI ?_; intro G9 hG9; rintro i ys _ hi hP9; refine an2 hP9 ?_; clear hP9; rintro rfl hP9; refine ex1 hP9 ?_; clear hP9; intro ns hP9; refine an3 hP9 ?_; clear hP9; intro hys hnl hnb; refine hG9 _ _ _ ?_; clear hG9 G9; refine postB ?_; intro G9 hG9; rintro C oC D m₂ h tk its E' hP9; refine ex2 hP9 ?_; clear hP9; intro u v hP9; refine an3 hP9 ?_; clear hP9; intro hQ1 hmu hmv; refine ex2 hQ1 ?_; clear hQ1; intro t x hP9; refine an2 hP9 ?_; clear hP9; intro hx huv; refine hG9 _ _ _ _ _ _ _ _ ?_; clear hG9 G9; rintro hNs hits F₁ N₁ ap)
    (refine ex2 (map2 hits) ?_; intro oI oJ hP9; revert hP9; rintro rfl)
    simp only [List.cons_append, List.nil_append] at N₁
    (refine an2 (show u = _ ∧ v = x from by simpa using huv) ?_; rintro rfl rfl)
    have hi3 : i < 3 := hi
    have hxv : ∃ tb, v = .int ([108, 55, 29].getD i 0) tb := by
      rcases i with _ | _ | _ | i
      · exact ⟨_, (Option.some.inj hx).symm⟩
      · exact ⟨_, (Option.some.inj hx).symm⟩
      · exact ⟨_, (Option.some.inj hx).symm⟩
      · omega
    (refine ex1 hxv ?_; clear hxv; intro tb hP9; revert hP9; rintro rfl)
    show wpAny _ _ _ _ _ _
    k_steps
    (rename News _ _ _ _ => N8)
    (rename Fr _ _ _ _ => F8)
    exact GEnd.intro F8 (kst_newsOf N8 (by walk_at "m sub")) ap (.head _) ⟨rfl, _, ints_snoc hys, by rw [List.length_append, hnl]; rfl, fun n hn => by
      rcases List.mem_append.mp hn with hn | hn
      · exact hnb n hn
      · rw [List.mem_singleton.mp hn]; exact fm128 _⟩
  · (refine postE ?_; intro G9 hG9; rintro ys _ hP9; refine an2 hP9 ?_; clear hP9; rintro rfl hP9; refine ex1 hP9 ?_; clear hP9; intro ns hP9; refine an3 hP9 ?_; clear hP9; intro hys hnl hnb; refine hG9 _ _ ?_; clear hG9 G9; rintro D h tk F₁ N₁ ap)
    have hD3 : @Ne Nat D (A + 1 + 1 + 1) := ap _ (.head _) _ (.tail _ (.tail _ (.tail _ (.tail _ (.tail _ (.head _))))))
    have hD4 : @Ne Nat D (A + 1 + 1 + 1 + 1) := ap _ (.head _) _ (.tail _ (.tail _ (.tail _ (.tail _ (.head _)))))
    have hT3 : @Ne Nat D1 (A + 1 + 1 + 1) := ap1 _ (.head _) _ (.tail _ (.tail _ (.tail _ (.head _))))
    have hT4 : @Ne Nat D1 (A + 1 + 1 + 1 + 1) := ap1 _ (.head _) _ (.tail _ (.tail _ (.head _)))
    k_steps
    rename_i ha oT dT tk2 lX hb lx1 gg I J tk3 hc tk4 t5 hd kx1 he oZ dZ kx2 hf oO FO NO dO
    (refine ex1 (ring_pair xs.sum) ?_; intro pp hP9; refine an3 hP9 ?_; clear hP9; intro hpp hp1 hp2)
    rw [hp1] at dZ
    rw [hp2] at dO
    exact K pp D1 D vsT ys nT _ ns oT oZ oO _ _ _ _ _ hpp hT hys hnl hnb FO (kst_newsOf NO (by walk_at "m sub")) dT dZ dO rfl
      ((aptA_of ap).mono (by walk_at "m sub") (by walk_at "m sub")) ((aptA_of ap1).mono (by walk_at "m sub") (by walk_at "m sub"))
end
end
section
local macro_rules | `(tactic| infer_instance) => `(tactic| first | exact List.Mem.head _ | assumption | (refine' List.Mem.tail _ ?_; infer_instance) | (refine List.mem_append_left _ ?_; infer_instance) | (refine List.mem_append_right _ ?_; infer_instance))
local macro_rules | `(tactic| walk_at "m ne1") => `(tactic| first
  | assumption
  | exact Ne.symm (by assumption)
  | ((with_reducible rename AptA _ _ => hq1); first | exact hq1 _ (by infer_instance) _ (by infer_instance) | exact Ne.symm (hq1 _ (by infer_instance) _ (by infer_instance)) | (clear hq1; walk_at "m ne1")))
local macro_rules | `(tactic| walk_at "m ne") => `(tactic| (show @Ne Nat _ _; (try dsimp only); first | walk_at "m ne1" | omega))
local macro_rules | `(tactic| walk_at "m apartB") => `(tactic| ((try dsimp only [List.cons_append, List.nil_append]); (repeat' (first | exact apart_nil _ | exact neAll_nil | refine apart_push ?_ ?_ | refine neAll_cons ?_ ?_ | walk_at "m ne")); done))
local macro_rules | `(tactic| walk_at "m aptA") => `(tactic| (unfold AptA; (repeat' (first | exact List.forall_mem_nil _ | (refine List.forall_mem_cons.mpr ⟨?_, ?_⟩) | (intro _ _; exact List.forall_mem_nil _) | walk_at "m ne"))))
theorem wOff_S_lb : True := by
  w_top off
  trivial
section
local macro_rules | `(tactic| walk_at "call ref") => `(tactic| (k_here; (with_reducible rename Mark9 => mk9); refine hold_out ?_))
theorem aptA_over {xL dL pL : Nat} {xs ys : List Addr} (h : ∀ y ∈ ys, @LT.lt Nat _ y dL) (h1 : dL < xL) (h2 : xL < pL) (hq : AptA xs ys) : AptA (xL :: dL :: pL :: xs) ys := by
  intro x hx y hy
  have hd := h y hy
  rcases List.mem_cons.mp hx with rfl | hx
  · exact Nat.ne_of_gt (Nat.lt_trans hd h1)
  rcases List.mem_cons.mp hx with rfl | hx
  · exact Nat.ne_of_gt hd
  rcases List.mem_cons.mp hx with rfl | hx
  · exact Nat.ne_of_gt (Nat.lt_trans (Nat.lt_trans hd h1) h2)
  · exact hq x hx y hy
theorem lb {s5 : Stmt} (b5 : lawBody[5]? = some s5) (w : World) {lscope : Scope} {A fa : Addr} {cd : Value} (hsc : lawScope = lscope) {p : Program} {loose : List Str} {mean : ExcName → Option Value} {mg mb : Str → Option Value} {g : Heap} (B : Below callerA g [] g) (X : (Mine.hd.heap_39 w.params).In g) (T : Top p loose mean mg mb g) {R1 : Value → Shared → Prop} {Q : Flow → Shared → Prop} {s : Shared} {m : Str → Option Value} (F : Fr g A s.heap m) {o1 o2 o3 o4 o5 o6 : Obj} {lT lN : Addr} {vsT : List Value} {nT nN : Nat} {u0 u1 u2 u3 u4 : Tok} {i0 i1 i2 : Int} {a0 a1' a2' : Nat} {z o : Nat} {params : Arguments} {body : List Stmt} {scope : Scope} {pos : Pos}
   (hst : stmtOf (Str.ofString "_law_stream") 2 = .FunctionDef (Str.ofString "give") params body [] none [] scope none (Str.ofString "give") pos)
   (N : News g A s.heap [(lN, listOf #[.int i0 u0, .int i1 u1, .int i2 u2] nN), (lT, listOf (List.toArray vsT) nT), (A + 1 + 1 + 1 + 1 + 1 + 1, o6), (A + 1 + 1 + 1 + 1 + 1, o5), (A + 1 + 1 + 1 + 1, o4), (A + 1 + 1 + 1, o3), (A + 1 + 1, o2), (A + 1, o1), (116, tabObj #[]), (46, tabObj #[]), (39, tabObj #[])])
   (e0 : i0 = a0) (e1' : i1 = a1') (e2' : i2 = a2') (hn : a0 < 128 ∧ a1' < 128 ∧ a2' < 128) (d3 : o3.data = .cell (some (.str (sg z) u3))) (d4 : o4.data = .cell (some (.str (sg o) u4))) (d5 : o5.data = .cell none)
   (hm : m (Str.ofString "numbers") = some (.ref lN)) (hA : @LT.lt Nat _ 116 A ∧ @LT.lt Nat _ 46 A ∧ @LT.lt Nat _ 39 A) (hap1 : AptA [lN] [lT, A + 1 + 1 + 1 + 1 + 1 + 1, A + 1 + 1 + 1 + 1 + 1, A + 1 + 1 + 1 + 1, A + 1 + 1 + 1, A + 1 + 1, A + 1, 116, 46, 39]) (hap2 : AptA [lT] [A + 1 + 1 + 1 + 1 + 1 + 1, A + 1 + 1 + 1 + 1 + 1, A + 1 + 1 + 1 + 1, A + 1 + 1 + 1, A + 1 + 1, A + 1, 116, 46, 39])
   (K : ∀ (xS dS fG c D C pS xL dL pL : Addr) (oc oC o5 : Obj) (doc pm ct : Value) (a1 b1 a2 a3 b3 a4 a5 e1 e2 e3 f3 e4 bl : Tok) (vs : List Value) (n np : Nat) (h' : Heap) (tk' : Nat), StrsAre vs (([a0, a1', a2'].flatMap (encWord z o)).reverse.map sg) → FnCode oc (Str.ofString "_law_stream.<locals>.give") → oC.data = .cell (some (.ref D)) → o5.data = .cell (some (.ref xL)) →
      @LT.lt Nat _ 116 C ∧ @LT.lt Nat _ C D ∧ @LT.lt Nat _ D c ∧ @LT.lt Nat _ c fG ∧ @LT.lt Nat _ fG dS ∧ @LT.lt Nat _ dS xS ∧ @LT.lt Nat _ xS dL ∧ @LT.lt Nat _ dL xL ∧ @LT.lt Nat _ xL pL →
      Fr g A h' m → News g A h' [(xL, instObj 110 dL), (dL, dictOf [{ hash := PyData.keyHash w.params (Str.ofString "lineno"), key := Value.str (Str.ofString "lineno") e1, val := Value.int (1) bl }, { hash := PyData.keyHash w.params (Str.ofString "instream"), key := Value.str (Str.ofString "instream") e2, val := Value.ref xS }, { hash := PyData.keyHash w.params (Str.ofString "whitespace"), key := Value.str (Str.ofString "whitespace") e3, val := Value.str (Str.ofString "\n\t\r ") f3 }, { hash := PyData.keyHash w.params (Str.ofString "pushback"), key := Value.str (Str.ofString "pushback") e4, val := Value.ref pL }] 4), (pL, listOf #[] np), (xS, instObj 110 dS), (dS, dictOf [{ hash := PyData.keyHash w.params (Str.ofString "lineno"), key := Value.str (Str.ofString "lineno") a1, val := Value.int 1 b1 }, { hash := PyData.keyHash w.params (Str.ofString "instream"), key := Value.str (Str.ofString "instream") a2, val := Value.none }, { hash := PyData.keyHash w.params (Str.ofString "whitespace"), key := Value.str (Str.ofString "whitespace") a3, val := Value.str (Str.ofString "\n\t\r ") b3 }, { hash := PyData.keyHash w.params (Str.ofString "pushback"), key := Value.str (Str.ofString "pushback") a4, val := Value.ref pS }, { hash := PyData.keyHash w.params (Str.ofString "read"), key := Value.str (Str.ofString "read") a5, val := Value.ref fG }] 5), (fG, fnMade (Str.ofString "give") (Str.ofString "_law_stream.<locals>.give") params body scope [(Str.ofString "signs", C)] doc pm c ct), (c, oc), (D, listOf (List.toArray (vs)) n), (C, oC), (lN, listOf #[.int i0 u0, .int i1 u1, .int i2 u2] nN), (lT, listOf (List.toArray vsT) nT), (A + 1 + 1 + 1 + 1 + 1 + 1, o6), (A + 1 + 1 + 1 + 1 + 1, o5), (A + 1 + 1 + 1 + 1, o4), (A + 1 + 1 + 1, o3), (A + 1 + 1, o2), (A + 1, o1), (116, tabObj #[rawInt 176, rawInt 4, .ref c]), (46, tabObj #[]), (39, tabObj #[])] →
      AptA [xL, dL, pL, xS, dS, fG, c, D, C] [lN, lT, A + 1 + 1 + 1 + 1 + 1 + 1, A + 1 + 1 + 1 + 1 + 1, A + 1 + 1 + 1 + 1, A + 1 + 1 + 1, A + 1 + 1, A + 1, 46, 39] → Q .next { s with heap := h', toks := tk' }) :
   wpAny (model PySem.Challenge.rw_sw0064_01.row.prog w) (callerA.deeper (envOfC (Str.ofString "law") lscope A fa cd)) (execs [s5] (envOfC (Str.ofString "law") lscope A fa cd)) Q (fun e s' => wpAny (model PySem.Challenge.rw_sw0064_01.row.prog w) (callerA.deeper (envOfC (Str.ofString "law") lscope A fa cd)) (leaving (envOfC (Str.ofString "law") lscope A fa cd) e) (fun _ s'' => R1 e s'') (fun e' s'' => R1 e' s'') s') s := by
  change some _ = _ at b5
  replace b5 := Option.some.inj b5
  subst b5
  change Scope.mk _ _ _ _ _ = _ at hsc
  cases hsc
  revert X
  k_fill
  intro X
  have mk9 := mark9
  k_steps
  refine hold_in ?_
  refine' Spec.use (rest := [(lT, listOf (List.toArray vsT) nT), (A + 1 + 1 + 1 + 1 + 1 + 1, o6), (A + 1 + 1 + 1 + 1 + 1, o5), (A + 1 + 1 + 1 + 1, o4), (A + 1 + 1 + 1, o3), (A + 1 + 1, o2), (A + 1, o1), (116, tabObj #[]), (46, tabObj #[]), (39, tabObj #[])]) (wri_spec w z o (sg z) (sg o) lN nN a0 a1' a2' i0 i1 i2 _ _ u0 u1 u2 rfl rfl e0 e1' e2' hn) ?kB ?kF ?kX ?kN ?kap (atAll_nil _) ?kdr ?kT ?kd ?ku ?_
  case kB => k_asm
  case kF => k_asm
  case kX => k_asm
  case kT => k_asm
  case kN => ((rename News _ _ _ _ => N9); exact kst_newsOf N9 (by walk_at "m sub"))
  case kap => walk_at "m apartB"
  case kdr => exact apart_nil _
  case kd => decide +kernel
  case ku => decide +kernel
  (refine postG ?_; intro G9 hG9; rintro r1 new1 h1 tk1 hP9; refine an2 hP9 ?_; clear hP9; rintro rfl hP9; refine ex1 hP9 ?_; clear hP9; intro tx hP9; revert hP9; rintro rfl; refine hG9 _ _ _ _ ?_; clear hG9 G9; rintro F1 N1 ap1)
  simp only [List.cons_append, List.nil_append] at N1
  try dsimp only
  k_steps
  refine hold_in ?_
  refine' Spec.use (rest := [(lN, listOf #[.int i0 u0, .int i1 u1, .int i2 u2] nN), (lT, listOf (List.toArray vsT) nT), (A + 1 + 1 + 1 + 1 + 1 + 1, o6), (A + 1 + 1 + 1 + 1 + 1, o5), (A + 1 + 1 + 1 + 1, o4), (A + 1 + 1 + 1, o3), (A + 1 + 1, o2), (A + 1, o1), (46, tabObj #[]), (39, tabObj #[])]) (str_spec w ([a0, a1', a2'].flatMap (encWord z o)) _ _ hst rfl (Nat.le_trans (encs_len z o _) (show 20 * 3 ≤ 100 by decide))) ?kB ?kF ?kX ?kN ?kap (atAll_nil _) ?kdr ?kT ?kd ?ku ?_
  case kB => k_asm
  case kF => k_asm
  case kX => k_asm
  case kT => k_asm
  case kN => ((rename News _ _ _ _ => N9); exact kst_newsOf N9 (by walk_at "m sub"))
  case kap => walk_at "m apartB"
  case kdr => exact apart_nil _
  case kd => decide +kernel
  case ku => decide +kernel
  (refine postG ?_; intro G9 hG9; rintro r2 new2 h2 tk2 hP9; refine ex8 hP9 ?_; clear hP9; intro vs n xS dS fG c D C hP9; refine ex8 hP9 ?_; clear hP9; intro pS oc oC doc pm ct ta1 tb1 hP9; refine ex5 hP9 ?_; clear hP9; intro ta2 ta3 tb3 ta4 ta5 hP9; refine an6 hP9 ?_; clear hP9; rintro rfl rfl hvs hoc hoC hord; refine hG9 _ _ _ _ ?_; clear hG9 G9; rintro F2 N2 ap2)
  simp only [List.cons_append, List.nil_append] at N2
  try dsimp only
  have hf0 : @Ne Nat xS (A + 1 + 1 + 1 + 1 + 1) := ap2 _ (.head _) _ (.tail _ (.tail _ (.tail _ (.head _))))
  have hf1 : @Ne Nat dS (A + 1 + 1 + 1 + 1 + 1) := ap2 _ (.tail _ (.head _)) _ (.tail _ (.tail _ (.tail _ (.head _))))
  have hf2 : @Ne Nat fG (A + 1 + 1 + 1 + 1 + 1) := ap2 _ (.tail _ (.tail _ (.head _))) _ (.tail _ (.tail _ (.tail _ (.head _))))
  have hf3 : @Ne Nat c (A + 1 + 1 + 1 + 1 + 1) := ap2 _ (.tail _ (.tail _ (.tail _ (.head _)))) _ (.tail _ (.tail _ (.tail _ (.head _))))
  have hf4 : @Ne Nat D (A + 1 + 1 + 1 + 1 + 1) := ap2 _ (.tail _ (.tail _ (.tail _ (.tail _ (.head _))))) _ (.tail _ (.tail _ (.tail _ (.head _))))
  have hf5 : @Ne Nat C (A + 1 + 1 + 1 + 1 + 1) := ap2 _ (.tail _ (.tail _ (.tail _ (.tail _ (.tail _ (.head _)))))) _ (.tail _ (.tail _ (.tail _ (.head _))))
  have hf6 : @Ne Nat lN (A + 1 + 1 + 1 + 1 + 1) := hap1 _ (.head _) _ (.tail _ (.tail _ (.head _)))
  have hf7 : @Ne Nat lT (A + 1 + 1 + 1 + 1 + 1) := hap2 _ (.head _) _ (.tail _ (.head _))
  have hq2 : AptA [xS, dS, fG, c, D, C] [lN, lT, A + 1 + 1 + 1 + 1 + 1 + 1, A + 1 + 1 + 1 + 1 + 1, A + 1 + 1 + 1 + 1, A + 1 + 1 + 1, A + 1 + 1, A + 1, 46, 39] := (aptA_of ap2).mono (by walk_at "m sub") (by walk_at "m sub")
  (with_reducible rename Mark9 => mk9x); clear mk9x
  k_steps
  rename_i xL dL hx lx1 lx2 g3 L3 h3 B3 X3 T3 tk3 h4 h5 h6 pL h7 lx3 h8 F8 N8 tk8 Tc kX h9 o9 F9 N9 d9
  exact K xS dS fG c D C pS xL dL pL oc oC o9 doc pm ct _ _ _ _ _ _ _ _ _ _ _ _ _ vs n _ _ _ hvs hoc hoC d9 ⟨hord.1, hord.2.1, hord.2.2.1, hord.2.2.2.1, hord.2.2.2.2.1, hord.2.2.2.2.2, lx1.1, lx2, lx3.1⟩ F9 (kst_newsOf N9 (by walk_at "m sub")) (aptA_over (have q9 := lx1.2.2.2.2.2.2.2; List.forall_mem_cons.mpr ⟨q9.1, List.forall_mem_cons.mpr ⟨q9.2.1, List.forall_mem_cons.mpr ⟨q9.2.2.1, List.forall_mem_cons.mpr ⟨q9.2.2.2.1, List.forall_mem_cons.mpr ⟨q9.2.2.2.2.1, List.forall_mem_cons.mpr ⟨q9.2.2.2.2.2.1, List.forall_mem_cons.mpr ⟨q9.2.2.2.2.2.2.1, List.forall_mem_cons.mpr ⟨q9.2.2.2.2.2.2.2.1, List.forall_mem_cons.mpr ⟨q9.2.2.2.2.2.2.2.2.1, List.forall_mem_cons.mpr ⟨q9.2.2.2.2.2.2.2.2.2, List.forall_mem_nil _⟩⟩⟩⟩⟩⟩⟩⟩⟩⟩) lx2 lx3.1 hq2)
end
section
local macro_rules | `(tactic| walk_at "m subT") => `(tactic| first | ((try dsimp only [List.cons_append, List.nil_append, List.map_cons, List.map_nil]); (repeat' (first | exact sub_nil | (refine sub_cons ?_ ?_; (focus infer_instance)))); done) | ((try simp only [List.cons_append, List.nil_append, List.append_nil, List.append_assoc]); (repeat' (first | exact List.forall_mem_nil _ | (refine List.forall_mem_cons.mpr ⟨?_, ?_⟩; (focus infer_instance)) | (refine List.forall_mem_append.mpr ⟨?_, ?_⟩) | (intro p9 hp9; infer_instance) | infer_instance))))
local macro_rules | `(tactic| k_mem) => `(tactic| infer_instance)
local macro_rules | `(tactic| walk_at "m sub") => `(tactic| ((try dsimp only [List.cons_append, List.nil_append]); (repeat' (first | exact sub_nil | exact sub_refl | (refine sub_cons ?_ ?_; (focus k_mem)) | refine sub_skip ?_)); done))
theorem wOff_S_set : True := by
  w_top off
  trivial
section
local macro_rules | `(tactic| walk_at "call ref") => `(tactic| (k_here; refine hold_out ?_))
local macro_rules | `(tactic| walk_at "ite") => `(tactic| (k_here; refine hold_out ?_))
local macro_rules | `(tactic| walk_at "exec While Name cons nil") => `(tactic| (k_here; refine hold_out ?_))
local macro_rules | `(tactic| walk_at "RangeRest") => `(tactic| (k_here; refine hold_out ?_))
local macro_rules | `(tactic| walk_at "binaryOp Add str str") => `(tactic| (k_here; k_dflt (refine' m_addT ?a ?b ?c ?_; (case a => ((try simp only [strA_len]); omega)); (case b => ((try simp only [strA_len]); omega)); (case c => ((try simp only [strA_len]); omega))); (try dsimp only)))
local macro_rules | `(tactic| walk_at "UnrEnd") => `(tactic| (k_here; (with_reducible rename Mark9 => mk9); refine hold_out ?_))
local macro_rules | `(tactic| walk_at "call builtin:str.replace") => `(tactic| (k_here; refine hold_out ?_))
local macro_rules | `(tactic| walk_at "m lts") => `(tactic| (repeat' (first | exact List.forall_mem_nil _ | (refine List.forall_mem_cons.mpr ⟨?_, ?_⟩) | (show @LT.lt Nat _ _ _; (try dsimp only); omega))))
local macro_rules | `(tactic| walk_at "m apartA") => `(tactic| (unfold Apart; (try simp only [List.cons_append, List.nil_append, List.append_nil]); (repeat' (first | exact List.forall_mem_nil _ | (refine List.forall_mem_cons.mpr ⟨?_, ?_⟩) | (intro _ _; exact List.forall_mem_nil _) | (show @Ne Nat _ _; assumption) | (show @Ne Nat _ _; exact Ne.symm (by assumption)) | (refine neN ?_; (try dsimp only); omega)))))
local macro_rules | `(tactic| walk_at "m apart") => `(tactic| (unfold Apart; (try simp only [List.cons_append, List.nil_append, List.append_nil]); (repeat' (first | exact List.forall_mem_nil _ | (refine List.forall_mem_cons.mpr ⟨?_, ?_⟩) | (intro _ _; exact List.forall_mem_nil _) | (show @Ne Nat _ _; assumption) | (show @Ne Nat _ _; exact Ne.symm (by assumption)) | ((with_reducible rename AptA _ _ => hq1); exact hq1 _ (by k_mem) _ (by k_mem)) | ((with_reducible rename AptA _ _ => hq1); exact Ne.symm (hq1 _ (by k_mem) _ (by k_mem))) | (refine neN ?_; (try dsimp only); omega)))))
local macro_rules | `(tactic| walk_at "m subM") => `(tactic| ((try dsimp only [List.cons_append, List.nil_append]); (repeat' (first | exact sub_nil | (refine sub_cons ?_ ?_; (focus k_mem)))); done))
theorem apart_of_aptA {a b : Led} (h : AptA (a.map (·.1)) (b.map (·.1))) : Apart a b := fun _ hp _ hq => h _ (List.mem_map_of_mem hp) _ (List.mem_map_of_mem hq)
theorem apart_addr {a a' b b' : Led} (h : Apart a b) (e1 : a'.map (·.1) = a.map (·.1)) (e2 : b'.map (·.1) = b.map (·.1)) : Apart a' b' :=
  apart_of_aptA (by rw [e1, e2]; exact aptA_of h)
theorem set_spec (w : World) {xL dL pL : Addr} {e1 e2 e3 f3 e4 : Tok} {xS lw : Addr} {lv : Int} {bl : Tok} {np kw : Nat} (z o : Nat) (zero one : Str) (t1 t2 u0 u1 u2 : Tok) (hz : zero = sg z) (ho : one = sg o) (hzo : (z, o) ∈ zoL) (b0 b1 b2 : List Bool) (hb0 : b0.length = 7) (hb1 : b1.length = 7) (hb2 : b2.length = 7)
   (hord : @LT.lt Nat _ dL xL ∧ @LT.lt Nat _ xL pL) (hlw : AptA [lw] [dL, xL, pL]) :
   Spec w (.ref 148) [.ref xL, .str zero t1, .str one t2, .ref lw] 5 80 [] [(xL, instObj 110 dL), (dL, dictOf [{ hash := PyData.keyHash w.params (Str.ofString "lineno"), key := Value.str (Str.ofString "lineno") e1, val := Value.int (lv) bl }, { hash := PyData.keyHash w.params (Str.ofString "instream"), key := Value.str (Str.ofString "instream") e2, val := Value.ref xS }, { hash := PyData.keyHash w.params (Str.ofString "whitespace"), key := Value.str (Str.ofString "whitespace") e3, val := Value.str (Str.ofString "\n\t\r ") f3 }, { hash := PyData.keyHash w.params (Str.ofString "pushback"), key := Value.str (Str.ofString "pushback") e4, val := Value.ref pL }] 4), (pL, listOf #[] np), (lw, listOf #[.str (strL (bw z o b0)) u0, .str (strL (bw z o b1)) u1, .str (strL (bw z o b2)) u2] kw)] (fun r nw => ∃ (R f0 f1 f2 : Addr) (x0 x1 x2 : List Value) (n0 n1 n2 m9 nR : Nat), r = .ref R ∧ nw = [(R, listOf #[.ref f0, .ref f1, .ref f2] nR), (f0, listOf (List.toArray x0) n0), (f1, listOf (List.toArray x1) n1), (f2, listOf (List.toArray x2) n2), (xL, instObj 110 dL), (dL, dictOf [{ hash := PyData.keyHash w.params (Str.ofString "lineno"), key := Value.str (Str.ofString "lineno") e1, val := Value.int (lv) bl }, { hash := PyData.keyHash w.params (Str.ofString "instream"), key := Value.str (Str.ofString "instream") e2, val := Value.ref xS }, { hash := PyData.keyHash w.params (Str.ofString "whitespace"), key := Value.str (Str.ofString "whitespace") e3, val := Value.str (Str.ofString "\n\t\r ") f3 }, { hash := PyData.keyHash w.params (Str.ofString "pushback"), key := Value.str (Str.ofString "pushback") e4, val := Value.ref pL }] 4), (pL, listOf #[] m9), (lw, listOf #[.str (strL (bw z o b0)) u0, .str (strL (bw z o b1)) u1, .str (strL (bw z o b2)) u2] kw)] ∧ (IntsAre x0 (figL o (bw z o (settle b0)).reverse) ∧ IntsAre x1 (figL o (bw z o (settle b1)).reverse) ∧ IntsAre x2 (figL o (bw z o (settle b2)).reverse)) ∧ (@Ne Nat R xL ∧ @Ne Nat R dL ∧ @Ne Nat R pL) ∧ (@Ne Nat f0 xL ∧ @Ne Nat f0 dL ∧ @Ne Nat f0 pL) ∧ (@Ne Nat f1 xL ∧ @Ne Nat f1 dL ∧ @Ne Nat f1 pL) ∧ (@Ne Nat f2 xL ∧ @Ne Nat f2 dL ∧ @Ne Nat f2 pL)) := by
  unfold Spec
  k_fill
  intro p loose mean mg mb dp un gd cn nm g1 g2 mr a ccd cl outer A₀ base h₀ L m rest s Q E B F X N hap hro hdr T hdp hun hret
  walk_at "m enter"
  k_steps
  refine hold_in ?_
  rename_i g1 L1 h1 tk1 FG B1 X1 T1 RO1 l1 oc1 oc2 dd1 dd2 N1 i1 l2 it1 h2 tk2 hit F2 N2
  refine' Spec.use (rest := [(L1 + 1 + 1, oc1), (L1 + 1, oc2), (i1, it1), (lw, listOf #[.str (strL (bw z o b0)) u0, .str (strL (bw z o b1)) u1, .str (strL (bw z o b2)) u2] kw)]) (psh_spec w (lv := lv) (bl := bl) (xS := xS) (n := np) (vs := []) (v := .str (strL (bw z o b0)) u0) (Nat.zero_le _) hord) ?kB ?kF ?kX ?kN ?kap (atAll_nil _) ?kdr ?kT ?kd ?ku ?_
  walk_at "m use"
  case kd => walk_at "m room"
  case ku => walk_at "m room"
  (refine postG ?_; intro G9 hG9; rintro r3 new3 h3 tk3 hP9; refine an2 hP9 ?_; clear hP9; rintro rfl hP9; refine ex1 hP9 ?_; clear hP9; intro n3 hP9; revert hP9; rintro rfl; refine hG9 _ _ _ _ ?_; clear hG9 G9; rintro F3 N3 ap3)
  simp only [List.cons_append, List.nil_append, List.push_toArray] at N3
  dsimp only
  k_steps
  refine hold_in ?_
  rename_i it2 hh2 tkk2 hit2 FF2 NN2
  refine' Spec.use (rest := [(L1 + 1 + 1, oc1), (L1 + 1, oc2), (i1, it2), (lw, listOf #[.str (strL (bw z o b0)) u0, .str (strL (bw z o b1)) u1, .str (strL (bw z o b2)) u2] kw)]) (psh_spec w (lv := lv) (bl := bl) (xS := xS) (n := n3) (vs := [.str (strL (bw z o b0)) u0]) (v := .str (strL (bw z o b1)) u1) (Nat.le_of_ble_eq_true rfl) hord) ?kB ?kF ?kX ?kN ?kap (atAll_nil _) ?kdr ?kT ?kd ?ku ?_
  walk_at "m use"
  case kd => walk_at "m room"
  case ku => walk_at "m room"
  (refine postG ?_; intro G9 hG9; rintro r4 new4 h4 tk4 hP9; refine an2 hP9 ?_; clear hP9; rintro rfl hP9; refine ex1 hP9 ?_; clear hP9; intro n4 hP9; revert hP9; rintro rfl; refine hG9 _ _ _ _ ?_; clear hG9 G9; rintro F4 N4 ap4)
  simp only [List.cons_append, List.nil_append, List.push_toArray] at N4
  dsimp only
  k_steps
  refine hold_in ?_
  rename_i it3 hh3 tkk3 hit3 FF3 NN3
  refine' Spec.use (rest := [(L1 + 1 + 1, oc1), (L1 + 1, oc2), (i1, it3), (lw, listOf #[.str (strL (bw z o b0)) u0, .str (strL (bw z o b1)) u1, .str (strL (bw z o b2)) u2] kw)]) (psh_spec w (lv := lv) (bl := bl) (xS := xS) (n := n4) (vs := [.str (strL (bw z o b0)) u0, .str (strL (bw z o b1)) u1]) (v := .str (strL (bw z o b2)) u2) (Nat.le_of_ble_eq_true rfl) hord) ?kB ?kF ?kX ?kN ?kap (atAll_nil _) ?kdr ?kT ?kd ?ku ?_
  walk_at "m use"
  case kd => walk_at "m room"
  case ku => walk_at "m room"
  (refine postG ?_; intro G9 hG9; rintro r5 new5 h5 tk5 hP9; refine an2 hP9 ?_; clear hP9; rintro rfl hP9; refine ex1 hP9 ?_; clear hP9; intro n5 hP9; revert hP9; rintro rfl; refine hG9 _ _ _ _ ?_; clear hG9 G9; rintro F5 N5 ap5)
  simp only [List.cons_append, List.nil_append, List.push_toArray] at N5
  dsimp only
  k_steps
  refine hold_in ?_
  (rename News _ _ _ _ => N10)
  (rename Fr _ _ _ _ => F10)
  have hz1 : zero.length = 1 := by rw [hz]; rfl
  have ho1 : one.length = 1 := by rw [ho]; rfl
  have hd3 := dots_len
  refine While_inv (fun k m' nw => ∃ (cs : List (List Bool)) (busy : Bool) (vq : List Value) (nq : Nat) (tz : Tok), cs.length = 3 ∧ (∀ c ∈ cs, c.length = 7) ∧ cs.map settle = [b0, b1, b2].map settle ∧ StrsAre vq (qw z o cs) ∧ m' (Str.ofString "busy") = some (.bool busy) ∧ m' (Str.ofString "zero") = some (.str zero tz) ∧ m' (Str.ofString "words") = some (.ref lw) ∧ nw = [(L1 + 1 + 1, oc1), (L1 + 1, oc2), (xL, instObj 110 dL), (dL, dictOf [{ hash := PyData.keyHash w.params (Str.ofString "lineno"), key := Value.str (Str.ofString "lineno") e1, val := Value.int (lv) bl }, { hash := PyData.keyHash w.params (Str.ofString "instream"), key := Value.str (Str.ofString "instream") e2, val := Value.ref xS }, { hash := PyData.keyHash w.params (Str.ofString "whitespace"), key := Value.str (Str.ofString "whitespace") e3, val := Value.str (Str.ofString "\n\t\r ") f3 }, { hash := PyData.keyHash w.params (Str.ofString "pushback"), key := Value.str (Str.ofString "pushback") e4, val := Value.ref pL }] 4), (pL, listOf (List.toArray vq) nq), (lw, listOf #[.str (strL (bw z o b0)) u0, .str (strL (bw z o b1)) u1, .str (strL (bw z o b2)) u2] kw)] ∧ (busy = true → (cs.map ones).sum + 1 ≤ k) ∧ (busy = false → ∀ c ∈ cs, find3 c = none)) F10 (kst_newsOf N10 (by walk_at "m sub")) (n₀ := 22) (in5 [b0, b1, b2] true [.str (strL (bw z o b0)) u0, .str (strL (bw z o b1)) u1, .str (strL (bw z o b2)) u2] n5 t1 ⟨rfl, ?_, rfl, .cons _ _ (.cons _ _ (.cons _ _ .nil)), rfl, rfl, rfl, rfl, ?_, fun e => nomatch e⟩) ?_
  · intro c hc
    simp only [List.mem_cons, List.not_mem_nil, or_false] at hc
    rcases hc with rfl | rfl | rfl <;> assumption
  · intro _
    have h0 := ones_le b0 (mem_all7 hb0)
    have h1 := ones_le b1 (mem_all7 hb1)
    have h2 := ones_le b2 (mem_all7 hb2)
    simp only [List.map_cons, List.map_nil, List.sum_cons, List.sum_nil]; omega
  clear F10 N10
  (rintro k m7 nw7 h7 tk7 F7 N7 hP9; refine ex5 hP9 ?_; clear hP9; intro cs busy vq nq tz hP9; refine an10 hP9 ?_; clear hP9; rintro hcl hc7 hset hvq hm1 hm2 hm3 rfl hbt hbf)
  k_steps
  refine hold_in ?_
  cases busy with
  | true =>
    rw [if_pos rfl]
    have hk := hbt rfl
    refine gen_Q ?_
    intro QW hQW
    k_steps
    refine hold_in ?_
    rename_i i9 l9
    refine rangeRest_ind (fun i m' nw => ∃ (busy : Bool) (vq : List Value) (nq : Nat) (tz : Tok), StrsAre vq (qw z o (que cs i)) ∧ m' (Str.ofString "busy") = some (.bool busy) ∧ m' (Str.ofString "zero") = some (.str zero tz) ∧ m' (Str.ofString "words") = some (.ref lw) ∧ nw = [(L1 + 1 + 1, oc1), (L1 + 1, oc2), (xL, instObj 110 dL), (dL, dictOf [{ hash := PyData.keyHash w.params (Str.ofString "lineno"), key := Value.str (Str.ofString "lineno") e1, val := Value.int (lv) bl }, { hash := PyData.keyHash w.params (Str.ofString "instream"), key := Value.str (Str.ofString "instream") e2, val := Value.ref xS }, { hash := PyData.keyHash w.params (Str.ofString "whitespace"), key := Value.str (Str.ofString "whitespace") e3, val := Value.str (Str.ofString "\n\t\r ") f3 }, { hash := PyData.keyHash w.params (Str.ofString "pushback"), key := Value.str (Str.ofString "pushback") e4, val := Value.ref pL }] 4), (pL, listOf (List.toArray vq) nq), (lw, listOf #[.str (strL (bw z o b0)) u0, .str (strL (bw z o b1)) u1, .str (strL (bw z o b2)) u2] kw)] ∧ busy = anyB cs i) ?_ ?_ _ _ _ _ rfl (in4 false vq nq tz ⟨by rw [que, List.drop_zero, List.take_zero, List.map_nil, List.append_nil]; exact hvq, rfl, hm2, hm3, rfl, rfl⟩)
    · (rintro i m8 nw8 hi hP9; refine ex4 hP9 ?_; clear hP9; intro busy vq8 nq8 tz8 hP9; refine an6 hP9 ?_; clear hP9; rintro hvq8 hm81 hm82 hm83 rfl hbz; rintro it8 t8 h8 tk8 F8 N8)
      show wpAny _ _ _ _ _ _
      refine gen_Q ?_
      intro QF hQF
      have mk9 := mark9
      (refine ex1 (que_step (cs := cs) (i := i) (by rw [hcl]; exact hi)) ?_; intro c hP9; refine an4 hP9 ?_; clear hP9; intro hcm hq1 hq2 hany)
      have hc7' := hc7 c hcm
      rw [hq1] at hvq8
      (refine ex2 (strs_cons hvq8) ?_; clear hvq8; intro tv vs8 hP9; refine an2 hP9 ?_; clear hP9; rintro rfl hvs)
      have hvl8 : vs8.length ≤ 9000 := by
        rw [strs_length hvs, List.length_map, List.length_append, List.length_drop, List.length_map, List.length_take, hcl]; exact Nat.le_trans (Nat.add_le_add (Nat.sub_le _ _) (Nat.min_le_right _ _)) (by decide)
      k_steps
      refine hold_in ?_
      refine' Spec.use (rest := [(i9, it8), (L1 + 1 + 1, oc1), (L1 + 1, oc2), (lw, listOf #[.str (strL (bw z o b0)) u0, .str (strL (bw z o b1)) u1, .str (strL (bw z o b2)) u2] kw)]) (gta_spec w (lv := lv) (bl := bl) (xS := xS) (n := nq8) (vs := vs8) (v := .str (strL (bw z o c)) tv) hvl8 hord) ?kB ?kF ?kX ?kN ?kap (atAll_nil _) ?kdr ?kT ?kd ?ku ?_
      walk_at "m use"
      case kd => walk_at "m room"
      case ku => walk_at "m room"
      (refine postG ?_; intro G9 hG9; rintro r9 new9 h9 tk9 hP9; refine an2 hP9 ?_; clear hP9; rintro rfl hP9; refine ex1 hP9 ?_; clear hP9; intro n9 hP9; revert hP9; rintro rfl; refine hG9 _ _ _ _ ?_; clear hG9 G9; rintro F9 N9 ap9)
      simp only [List.cons_append, List.nil_append] at N9
      dsimp only
      k_steps
      refine hold_in ?_
      (rename News _ _ _ _ => N9)
      refine' Spec.use (rest := _) (ell_spec w z o hzo c hc7' _ _ _ _ (by rw [hz, ho]; exact want_eq z o) rfl) ?kB ?kF ?kX ?kN ?kap (atAll_nil _) ?kdr ?kT ?kd ?ku ?_
      case kB => k_asm
      case kF => k_asm
      case kX => k_asm
      case kT => k_asm
      case kN => exact N9
      case kap => exact apart_nil _
      case kdr => exact apart_nil _
      case kd => walk_at "m room"
      case ku => walk_at "m room"
      (refine postG ?_; intro G9 hG9; rintro r10 new10 h10 tk10 hP9; refine an2 hP9 ?_; clear hP9; rintro rfl rfl; refine hG9 _ _ _ _ ?_; clear hG9 G9; rintro F10 N10 ap10)
      simp only [List.nil_append] at N10
      dsimp only
      k_steps
      refine hold_in ?_
      have hcA := mem_all7 hc7'
      cases hfc : (find3 c).isSome with
      | true =>
        rw [if_pos rfl]
        k_steps
        refine hold_in ?_
        have hrp : rpl1 (strL (bw z o c)) (zero ++ one ++ one) (one ++ zero ++ zero) = strL (bw z o (repl c)) := by
          rw [hz, ho, zoo_eq, zoo_eq]; exact rp_r (z, o) hzo c hcA hfc
        refine m_repl1 ?a1 ?a2 ?a3 ?a4 ?a5 ?a6 ?a7 ?a8 ?a9 ?_
        case a1 => rw [hz, ho, zoo_eq, bw_len, hc7']; exact rp_o (z, o) hzo c hcA hfc
        case a2 => exact beq_eq_false_iff_ne.mpr (by simp only [strA_len]; omega)
        case a3 =>
          show @Ne Nat _ _
          omega
        case a4 =>
          show @Ne Nat _ _
          omega
        case a5 =>
          show @Ne Nat _ _
          omega
        case a6 => rw [hz, ho, zoo_eq, zoo_eq]; exact zoo_ne (z, o) hzo
        case a7 => rw [bw_len, hc7']; decide
        case a8 => simp only [strA_len]; omega
        case a9 => rw [hrp, bw_len, repl_len c hcA]; decide
        intro t13 k13
        rw [hrp]
        k_steps
        refine hold_in ?_
        refine' Spec.use (rest := [(i9, it8), (L1 + 1 + 1, oc1), (L1 + 1, oc2), (lw, listOf #[.str (strL (bw z o b0)) u0, .str (strL (bw z o b1)) u1, .str (strL (bw z o b2)) u2] kw)]) (psh_spec w (lv := lv) (bl := bl) (xS := xS) (n := n9) (vs := vs8) (v := .str (strL (bw z o (repl c))) t13) hvl8 hord) ?kB ?kF ?kX ?kN ?kap (atAll_nil _) ?kdr ?kT ?kd ?ku ?_
        walk_at "m use"
        case kd => walk_at "m room"
        case ku => walk_at "m room"
        (refine postG ?_; intro G9 hG9; rintro r11 new11 h11 tk11 hP9; refine an2 hP9 ?_; clear hP9; rintro rfl hP9; refine ex1 hP9 ?_; clear hP9; intro n11 hP9; revert hP9; rintro rfl; refine hG9 _ _ _ _ ?_; clear hG9 G9; rintro F11 N11 ap11)
        simp only [List.cons_append, List.nil_append, List.push_toArray] at N11
        dsimp only
        k_steps
        refine hQF _ _ ?_
        (try dsimp only [UnrPost])
        (rename News _ _ _ _ => N12)
        (rename Fr _ _ _ _ => F12)
        exact UnrEnd.intro3 F12 N12 [(L1 + 1 + 1, oc1), (L1 + 1, oc2), (xL, instObj 110 dL), (dL, dictOf [{ hash := PyData.keyHash w.params (Str.ofString "lineno"), key := Value.str (Str.ofString "lineno") e1, val := Value.int (lv) bl }, { hash := PyData.keyHash w.params (Str.ofString "instream"), key := Value.str (Str.ofString "instream") e2, val := Value.ref xS }, { hash := PyData.keyHash w.params (Str.ofString "whitespace"), key := Value.str (Str.ofString "whitespace") e3, val := Value.str (Str.ofString "\n\t\r ") f3 }, { hash := PyData.keyHash w.params (Str.ofString "pushback"), key := Value.str (Str.ofString "pushback") e4, val := Value.ref pL }] 4), (pL, listOf (List.toArray (vs8 ++ [.str (strL (bw z o (repl c))) t13])) n11), (lw, listOf #[.str (strL (bw z o b0)) u0, .str (strL (bw z o b1)) u1, .str (strL (bw z o b2)) u2] kw)] (by k_mem) (by k_subL) (offI_lt (by walk_at "m lts")) (in4 true (vs8 ++ [.str (strL (bw z o (repl c))) t13]) n11 tz8 ⟨by rw [hq2, qw, List.map_append]; exact strs_snoc' hvs, rfl, hm82, hm83, rfl, by rw [hany, hfc, Bool.or_true]⟩)
      | false =>
        rw [if_neg Bool.false_ne_true]
        k_steps
        refine hold_in ?_
        have hnone : find3 c = none := by cases hf : find3 c with | none => rfl | some k => rw [hf] at hfc; cases hfc
        have hrc := repl_id c hcA hnone
        refine' Spec.use (rest := [(i9, it8), (L1 + 1 + 1, oc1), (L1 + 1, oc2), (lw, listOf #[.str (strL (bw z o b0)) u0, .str (strL (bw z o b1)) u1, .str (strL (bw z o b2)) u2] kw)]) (psh_spec w (lv := lv) (bl := bl) (xS := xS) (n := n9) (vs := vs8) (v := .str (strL (bw z o c)) tv) hvl8 hord) ?kB ?kF ?kX ?kN ?kap (atAll_nil _) ?kdr ?kT ?kd ?ku ?_
        walk_at "m use"
        case kd => walk_at "m room"
        case ku => walk_at "m room"
        (refine postG ?_; intro G9 hG9; rintro r11 new11 h11 tk11 hP9; refine an2 hP9 ?_; clear hP9; rintro rfl hP9; refine ex1 hP9 ?_; clear hP9; intro n11 hP9; revert hP9; rintro rfl; refine hG9 _ _ _ _ ?_; clear hG9 G9; rintro F11 N11 ap11)
        simp only [List.cons_append, List.nil_append, List.push_toArray] at N11
        dsimp only
        k_steps
        refine hQF _ _ ?_
        (try dsimp only [UnrPost])
        (rename News _ _ _ _ => N12)
        (rename Fr _ _ _ _ => F12)
        exact UnrEnd.intro3 F12 N12 [(L1 + 1 + 1, oc1), (L1 + 1, oc2), (xL, instObj 110 dL), (dL, dictOf [{ hash := PyData.keyHash w.params (Str.ofString "lineno"), key := Value.str (Str.ofString "lineno") e1, val := Value.int (lv) bl }, { hash := PyData.keyHash w.params (Str.ofString "instream"), key := Value.str (Str.ofString "instream") e2, val := Value.ref xS }, { hash := PyData.keyHash w.params (Str.ofString "whitespace"), key := Value.str (Str.ofString "whitespace") e3, val := Value.str (Str.ofString "\n\t\r ") f3 }, { hash := PyData.keyHash w.params (Str.ofString "pushback"), key := Value.str (Str.ofString "pushback") e4, val := Value.ref pL }] 4), (pL, listOf (List.toArray (vs8 ++ [.str (strL (bw z o c)) tv])) n11), (lw, listOf #[.str (strL (bw z o b0)) u0, .str (strL (bw z o b1)) u1, .str (strL (bw z o b2)) u2] kw)] (by k_mem) (by k_subL) (offI_lt (by walk_at "m lts")) (in4 busy (vs8 ++ [.str (strL (bw z o c)) tv]) n11 tz8 ⟨by rw [hq2, hrc, qw, List.map_append]; exact strs_snoc' hvs, hm81, hm82, hm83, rfl, by rw [hany, hfc, Bool.or_false, hbz]⟩)
    · (rintro m8 nw8 hP9; refine ex4 hP9 ?_; clear hP9; intro busy vq8 nq8 tz8 hP9; refine an6 hP9 ?_; clear hP9; rintro hvq8 hm81 hm82 hm83 rfl hbz; rintro h8 tk8 F8 N8)
      have h3 : que cs 3 = cs.map repl := by rw [que, ← hcl, List.drop_length, List.take_length, List.nil_append]
      have hb3 : anyB cs 3 = cs.any (fun c => (find3 c).isSome) := by rw [anyB, ← hcl, List.take_length]
      rw [h3] at hvq8
      rw [hb3] at hbz
      k_steps
      cases busy with
      | true =>
        have ho1 := ones_any hc7 hbz.symm
        exact hQW _ _ (WhileStep.intro (n' := ((cs.map repl).map ones).sum + 1) F8 N8 (by omega) (in5 (cs.map repl) true vq8 nq8 tz8 ⟨by rw [List.length_map, hcl], repl_all hc7, by rw [settle_map hc7, hset], hvq8, hm81, hm82, hm83, rfl, fun _ => Nat.le_refl _, fun (e : true = false) => nomatch e⟩))
      | false =>
        (refine an2 (any_none hc7 hbz.symm) ?_; intro hr1 hr2)
        rw [hr1] at hvq8
        exact hQW _ _ (WhileStep.intro (n' := 0) F8 N8 (by omega) (in5 cs false vq8 nq8 tz8 ⟨hcl, hc7, hset, hvq8, hm81, hm82, hm83, rfl, (fun (e : false = true) => nomatch e), fun _ => hr2⟩))
  | false =>
    rw [if_neg Bool.false_ne_true]
    have hfin := hbf rfl
    clear hbt hbf
    have hcs : cs = [settle b0, settle b1, settle b2] := by
      rw [← (List.map_congr_left fun c hc => settle_fix c (mem_all7 (hc7 c hc)) (hfin c hc)).trans (List.map_id _)]; exact hset
    clear hset hfin
    (refine ex1 (show ∃ B : Led, B = [(L1 + 1 + 1, oc1), (L1 + 1, oc2), (lw, listOf #[.str (strL (bw z o b0)) u0, .str (strL (bw z o b1)) u1, .str (strL (bw z o b2)) u2] kw)] from ⟨_, rfl⟩) ?_; intro BS hP9; revert hP9; intro hBS)
    have n1 : (L1 + 1 + 1, oc1) ∈ BS := by rw [hBS]; exact .head _
    have n2 : (L1 + 1, oc2) ∈ BS := by rw [hBS]; exact .tail _ (.head _)
    have n3 : (lw, listOf #[.str (strL (bw z o b0)) u0, .str (strL (bw z o b1)) u1, .str (strL (bw z o b2)) u2] kw) ∈ BS := by rw [hBS]; exact .tail _ (.tail _ (.head _))
    have hB0 : ∀ (o9 : Obj), Apart [(xL, instObj 110 dL), (dL, dictOf [{ hash := PyData.keyHash w.params (Str.ofString "lineno"), key := Value.str (Str.ofString "lineno") e1, val := Value.int (lv) bl }, { hash := PyData.keyHash w.params (Str.ofString "instream"), key := Value.str (Str.ofString "instream") e2, val := Value.ref xS }, { hash := PyData.keyHash w.params (Str.ofString "whitespace"), key := Value.str (Str.ofString "whitespace") e3, val := Value.str (Str.ofString "\n\t\r ") f3 }, { hash := PyData.keyHash w.params (Str.ofString "pushback"), key := Value.str (Str.ofString "pushback") e4, val := Value.ref pL }] 4), (pL, o9)] BS := by
      intro o9
      rw [hBS]
      walk_at "m apart"
    have N8 : News g1 L1 h7 ([(xL, instObj 110 dL), (dL, dictOf [{ hash := PyData.keyHash w.params (Str.ofString "lineno"), key := Value.str (Str.ofString "lineno") e1, val := Value.int (lv) bl }, { hash := PyData.keyHash w.params (Str.ofString "instream"), key := Value.str (Str.ofString "instream") e2, val := Value.ref xS }, { hash := PyData.keyHash w.params (Str.ofString "whitespace"), key := Value.str (Str.ofString "whitespace") e3, val := Value.str (Str.ofString "\n\t\r ") f3 }, { hash := PyData.keyHash w.params (Str.ofString "pushback"), key := Value.str (Str.ofString "pushback") e4, val := Value.ref pL }] 4), (pL, listOf (List.toArray vq) nq)] ++ BS) := by rw [hBS]; exact kst_newsOf N7 (by walk_at "m sub")
    clear N7 hBS
    k_steps
    refine gRest_indQ (fun i ys nw => ∃ (FL : Led) (vq : List Value) (m9 : Nat), nw = FL ++ ([(xL, instObj 110 dL), (dL, dictOf [{ hash := PyData.keyHash w.params (Str.ofString "lineno"), key := Value.str (Str.ofString "lineno") e1, val := Value.int (lv) bl }, { hash := PyData.keyHash w.params (Str.ofString "instream"), key := Value.str (Str.ofString "instream") e2, val := Value.ref xS }, { hash := PyData.keyHash w.params (Str.ofString "whitespace"), key := Value.str (Str.ofString "whitespace") e3, val := Value.str (Str.ofString "\n\t\r ") f3 }, { hash := PyData.keyHash w.params (Str.ofString "pushback"), key := Value.str (Str.ofString "pushback") e4, val := Value.ref pL }] 4), (pL, listOf (List.toArray vq) m9)] ++ BS) ∧ StrsAre vq (qw z o (cs.drop i)) ∧ ys.length = i ∧ Apart FL ([(xL, instObj 110 dL), (dL, dictOf [{ hash := PyData.keyHash w.params (Str.ofString "lineno"), key := Value.str (Str.ofString "lineno") e1, val := Value.int (lv) bl }, { hash := PyData.keyHash w.params (Str.ofString "instream"), key := Value.str (Str.ofString "instream") e2, val := Value.ref xS }, { hash := PyData.keyHash w.params (Str.ofString "whitespace"), key := Value.str (Str.ofString "whitespace") e3, val := Value.str (Str.ofString "\n\t\r ") f3 }, { hash := PyData.keyHash w.params (Str.ofString "pushback"), key := Value.str (Str.ofString "pushback") e4, val := Value.ref pL }] 4), (pL, listOf #[] 0)] ++ BS) ∧ ∀ (j : Nat) (v : Value) (c : List Bool), ys[j]? = some v → cs[j]? = some c → ∃ f x n, v = .ref f ∧ (f, listOf (List.toArray x) n) ∈ FL ∧ IntsAre x (figL o (bw z o c).reverse)) (in3 ([]) vq nq ⟨rfl, hvq, rfl, apart_nil _, fun _ _ _ h => by simp at h⟩) ?_ ?_
    · (refine postI ?_; intro G9 hG9; rintro i ys nw hi hP9; refine ex3 hP9 ?_; clear hP9; intro FL vq m9 hP9; refine an5 hP9 ?_; clear hP9; rintro rfl hvq hy hFL hY; refine hG9 _ _ _ ?_; clear hG9 G9; refine postB ?_; intro G9 hG9; rintro C oC D9 m₂ h9 tk9 its E' hP9; refine ex1 hP9 ?_; clear hP9; intro v hP9; refine an2 hP9 ?_; clear hP9; intro hQ1 hmv; refine ex1 hQ1 ?_; clear hQ1; intro u hP9; revert hP9; rintro rfl; refine hG9 _ _ _ _ _ _ _ _ ?_; clear hG9 G9; rintro hNs hits F₁ N₁ ap Qy Qs cQ cS)
      (refine ex1 (map1 hits) ?_; intro oI hP9; revert hP9; rintro rfl)
      simp only [List.cons_append, List.nil_append] at N₁
      have hi8 : i < cs.length := by rw [hcl]; exact hi
      have hc8 : cs[i]? = some cs[i] := List.getElem?_eq_getElem hi8
      rw [List.drop_eq_getElem_cons hi8] at hvq
      have hcm : cs[i] ∈ cs := List.getElem_mem hi8
      generalize cs[i] = c at *
      (refine ex2 (strs_cons hvq) ?_; clear hvq; intro q0 vs8 hP9; refine an2 hP9 ?_; clear hP9; rintro rfl hvs)
      have hvl8 : vs8.length ≤ 9000 := by
        rw [strs_length hvs, List.length_map, List.length_drop, hcl]; omega
      show wpAny _ _ _ _ _ _
      k_steps
      refine hold_in ?_
      rename_i gg I9 cE
      refine' Spec.use (rest := (I9, oI) :: (C, oC) :: (D9, lst ys) :: (FL ++ BS)) (gta_spec w (lv := lv) (bl := bl) (xS := xS) (n := m9) (vs := vs8) (v := .str (strL (bw z o c)) q0) hvl8 hord) ?kB ?kF ?kX ?kN ?kap (atAll_nil _) ?kdr ?kT ?kd ?ku ?_
      case kB => k_asm
      case kF => k_asm
      case kX => k_asm
      case kT => k_asm
      case kN => exact kst_newsOf N₁ (sub_appI (by walk_at "m subM") (sub_cons (.head _) (sub_cons (.tail _ (.head _)) (sub_cons (.tail _ (.tail _ (.head _))) (sub_skip (sub_skip (sub_skip (sub_appI (sub_appL sub_refl) (sub_appR (sub_skip (sub_skip (sub_skip sub_refl)))))))))))) 
      case kap => exact apart_two (b := [(I9, oI), (C, oC), (D9, lst ys)]) (apart_symm (apart_mono ap sub_refl (sub_appR (by walk_at "m subM")))) (apart_two (apart_symm (apart_addr (apart_mono hFL sub_refl (sub_appL sub_refl)) rfl rfl)) (hB0 _))
      case kdr => exact apart_nil _
      case kd => walk_at "m room"
      case ku => walk_at "m room"
      (refine postG ?_; intro G9 hG9; rintro r9 new9 h19 tk19 hP9; refine an2 hP9 ?_; clear hP9; rintro rfl hP9; refine ex1 hP9 ?_; clear hP9; intro n9 hP9; revert hP9; rintro rfl; refine hG9 _ _ _ _ ?_; clear hG9 G9; rintro F9 N9 ap9)
      simp only [List.cons_append, List.nil_append] at N9
      dsimp only
      k_steps
      refine hold_in ?_
      show wpAny _ _ (call (.ref 143) [.str one t2, .str (strL (bw z o c)) q0]) _ _ _
      refine' Spec.use (rest := _) (fig_spec w o one (strL (bw z o c)) (bw z o c) _ _ ho rfl (by rw [bw, List.length_map]; exact hc7 c hcm)) ?kB ?kF ?kX ?kN ?kap (atAll_nil _) ?kdr ?kT ?kd ?ku ?_
      case kB => k_asm
      case kF => k_asm
      case kX => k_asm
      case kT => k_asm
      case kN => exact N9
      case kap => exact apart_nil _
      case kdr => exact apart_nil _
      case kd => walk_at "m room"
      case ku => walk_at "m room"
      (refine postG ?_; intro G9 hG9; rintro r10 new10 h10 tk10 hP9; refine ex3 hP9 ?_; clear hP9; intro D10 vs10 n10 hP9; refine an3 hP9 ?_; clear hP9; rintro rfl rfl hI10; refine hG9 _ _ _ _ ?_; clear hG9 G9; rintro F10 N10 ap10)
      simp only [List.cons_append, List.nil_append] at N10
      dsimp only
      k_steps
      refine cQ _ _ _ ((D10, listOf (List.toArray vs10) n10) :: (FL ++ ([(xL, instObj 110 dL), (dL, dictOf [{ hash := PyData.keyHash w.params (Str.ofString "lineno"), key := Value.str (Str.ofString "lineno") e1, val := Value.int (lv) bl }, { hash := PyData.keyHash w.params (Str.ofString "instream"), key := Value.str (Str.ofString "instream") e2, val := Value.ref xS }, { hash := PyData.keyHash w.params (Str.ofString "whitespace"), key := Value.str (Str.ofString "whitespace") e3, val := Value.str (Str.ofString "\n\t\r ") f3 }, { hash := PyData.keyHash w.params (Str.ofString "pushback"), key := Value.str (Str.ofString "pushback") e4, val := Value.ref pL }] 4), (pL, listOf (List.toArray vs8) n9)] ++ BS))) F10 (kst_newsOf N10 ?sN) (apart_newR ap10 (by walk_at "m subM") (apart_two (b := FL) (c := [(xL, instObj 110 dL), (dL, dictOf [{ hash := PyData.keyHash w.params (Str.ofString "lineno"), key := Value.str (Str.ofString "lineno") e1, val := Value.int (lv) bl }, { hash := PyData.keyHash w.params (Str.ofString "instream"), key := Value.str (Str.ofString "instream") e2, val := Value.ref xS }, { hash := PyData.keyHash w.params (Str.ofString "whitespace"), key := Value.str (Str.ofString "whitespace") e3, val := Value.str (Str.ofString "\n\t\r ") f3 }, { hash := PyData.keyHash w.params (Str.ofString "pushback"), key := Value.str (Str.ofString "pushback") e4, val := Value.ref pL }] 4), (pL, listOf (List.toArray vs8) n9)] ++ BS) (apart_mono ap sub_refl (sub_appL sub_refl)) (apart_two (b := [(xL, instObj 110 dL), (dL, dictOf [{ hash := PyData.keyHash w.params (Str.ofString "lineno"), key := Value.str (Str.ofString "lineno") e1, val := Value.int (lv) bl }, { hash := PyData.keyHash w.params (Str.ofString "instream"), key := Value.str (Str.ofString "instream") e2, val := Value.ref xS }, { hash := PyData.keyHash w.params (Str.ofString "whitespace"), key := Value.str (Str.ofString "whitespace") e3, val := Value.str (Str.ofString "\n\t\r ") f3 }, { hash := PyData.keyHash w.params (Str.ofString "pushback"), key := Value.str (Str.ofString "pushback") e4, val := Value.ref pL }] 4), (pL, listOf (List.toArray vs8) n9)]) (c := BS) (apart_addr (apart_mono ap (b' := [(xL, instObj 110 dL), (dL, dictOf [{ hash := PyData.keyHash w.params (Str.ofString "lineno"), key := Value.str (Str.ofString "lineno") e1, val := Value.int (lv) bl }, { hash := PyData.keyHash w.params (Str.ofString "instream"), key := Value.str (Str.ofString "instream") e2, val := Value.ref xS }, { hash := PyData.keyHash w.params (Str.ofString "whitespace"), key := Value.str (Str.ofString "whitespace") e3, val := Value.str (Str.ofString "\n\t\r ") f3 }, { hash := PyData.keyHash w.params (Str.ofString "pushback"), key := Value.str (Str.ofString "pushback") e4, val := Value.ref pL }] 4), (pL, listOf (List.toArray (.str (strL (bw z o c)) q0 :: vs8)) m9)]) sub_refl (sub_appR (by walk_at "m subM"))) rfl rfl) (apart_mono ap sub_refl (sub_appR (sub_appR sub_refl)))))) trivial (in3 (_ :: FL) vs8 n9 ⟨rfl, hvs, by rw [List.length_append, hy]; rfl, ?sA, fun j v a hv hja => ?_⟩)
      case sN => exact sub_cons (by k_mem) (sub_cons (by k_mem) (sub_cons (by k_mem) (sub_cons (.head _) (sub_appI (sub_skip (sub_skip (sub_skip (sub_skip (sub_skip (sub_skip (sub_skip (sub_appL sub_refl)))))))) (sub_appI (by walk_at "m subM") (sub_skip (sub_skip (sub_skip (sub_skip (sub_skip (sub_skip (sub_skip (sub_appR sub_refl)))))))))))))
      case sA =>
        have hD10 : Apart [(D10, listOf (List.toArray vs10) n10)] BS := apart_mono ap10 sub_refl (sub_skip (sub_skip (sub_skip (sub_skip (sub_skip (sub_skip (sub_appR sub_refl)))))))
        have hD11 : Apart [(D10, listOf (List.toArray vs10) n10)] [(xL, instObj 110 dL), (dL, dictOf [{ hash := PyData.keyHash w.params (Str.ofString "lineno"), key := Value.str (Str.ofString "lineno") e1, val := Value.int (lv) bl }, { hash := PyData.keyHash w.params (Str.ofString "instream"), key := Value.str (Str.ofString "instream") e2, val := Value.ref xS }, { hash := PyData.keyHash w.params (Str.ofString "whitespace"), key := Value.str (Str.ofString "whitespace") e3, val := Value.str (Str.ofString "\n\t\r ") f3 }, { hash := PyData.keyHash w.params (Str.ofString "pushback"), key := Value.str (Str.ofString "pushback") e4, val := Value.ref pL }] 4), (pL, listOf (List.toArray vs8) n9)] := apart_mono ap10 sub_refl (by walk_at "m subM")
        exact apart_newL (apart_two (apart_addr (b' := [(xL, instObj 110 dL), (dL, dictOf [{ hash := PyData.keyHash w.params (Str.ofString "lineno"), key := Value.str (Str.ofString "lineno") e1, val := Value.int (lv) bl }, { hash := PyData.keyHash w.params (Str.ofString "instream"), key := Value.str (Str.ofString "instream") e2, val := Value.ref xS }, { hash := PyData.keyHash w.params (Str.ofString "whitespace"), key := Value.str (Str.ofString "whitespace") e3, val := Value.str (Str.ofString "\n\t\r ") f3 }, { hash := PyData.keyHash w.params (Str.ofString "pushback"), key := Value.str (Str.ofString "pushback") e4, val := Value.ref pL }] 4), (pL, listOf #[] 0)]) hD11 rfl rfl) hD10) sub_refl hFL
      rcases Nat.lt_trichotomy j ys.length with hj | hj | hj
      · rw [List.getElem?_append_left hj] at hv
        (refine ex3 (hY j v a hv hja) ?_; intro f x n hP9; refine an3 hP9 ?_; clear hP9; intro e1 e2 e3)
        exact ⟨f, x, n, e1, .tail _ e2, e3⟩
      · rw [hj, List.getElem?_append_right (Nat.le_refl _), Nat.sub_self] at hv
        cases hv
        rw [hj, hy, hc8] at hja
        cases hja
        exact ⟨D10, vs10, n10, rfl, .head _, hI10⟩
      · rw [List.getElem?_eq_none (by rw [List.length_append]; exact hj)] at hv; cases hv
    · (refine postE ?_; intro G9 hG9; rintro ys nw hP9; refine ex3 hP9 ?_; clear hP9; intro FL vq m9 hP9; refine an5 hP9 ?_; clear hP9; rintro rfl hvq hy hFL hY; refine hG9 _ _ ?_; clear hG9 G9; rintro D9 h9 tk9 F₁ N₁ ap)
      rw [hcs] at hY
      have hvq0 : vq = [] := by
        have e9 : cs.drop 3 = [] := List.drop_eq_nil_of_le (by rw [hcl]; exact Nat.le_refl _)
        have h9 : StrsAre vq (qw z o (cs.drop 3)) := hvq
        rw [e9] at h9
        exact strs_nil h9
      subst hvq0
      obtain ⟨v0, v1, v2, rfl⟩ : ∃ v0 v1 v2, ys = [v0, v1, v2] := by
        rcases ys with _ | ⟨a, _ | ⟨b, _ | ⟨c, _ | ⟨d, r⟩⟩⟩⟩
        · cases hy
        · cases hy
        · cases hy
        · exact ⟨a, b, c, rfl⟩
        · exact absurd (show r.length + 1 + 1 + 1 + 1 = 3 from hy) (by omega)
      (refine ex3 (hY 0 _ _ rfl rfl) ?_; intro f0 x0 n0 hP9; refine an3 hP9 ?_; clear hP9; rintro rfl z0 hx0)
      (refine ex3 (hY 1 _ _ rfl rfl) ?_; intro f1 x1 n1' hP9; refine an3 hP9 ?_; clear hP9; rintro rfl z1 hx1)
      (refine ex3 (hY 2 _ _ rfl rfl) ?_; intro f2 x2 n2' hP9; refine an3 hP9 ?_; clear hP9; rintro rfl z2 hx2)
      have apE : AptA [xL, dL, pL] [D9] := (aptA_of (apart_symm ap)).mono (a := (FL ++ ([(xL, instObj 110 dL), (dL, dictOf [{ hash := PyData.keyHash w.params (Str.ofString "lineno"), key := Value.str (Str.ofString "lineno") e1, val := Value.int (lv) bl }, { hash := PyData.keyHash w.params (Str.ofString "instream"), key := Value.str (Str.ofString "instream") e2, val := Value.ref xS }, { hash := PyData.keyHash w.params (Str.ofString "whitespace"), key := Value.str (Str.ofString "whitespace") e3, val := Value.str (Str.ofString "\n\t\r ") f3 }, { hash := PyData.keyHash w.params (Str.ofString "pushback"), key := Value.str (Str.ofString "pushback") e4, val := Value.ref pL }] 4), (pL, listOf (List.toArray []) m9)] ++ BS)).map (·.1)) (by rw [List.map_append]; exact sub_appR (by walk_at "m subM")) sub_refl
      have apF : AptA (FL.map (·.1)) [xL, dL, pL] := (aptA_of hFL).mono sub_refl (by rw [List.map_append]; exact sub_appL sub_refl)
      have e0 : ∀ y ∈ [xL, dL, pL], @Ne Nat f0 y := apF f0 (List.mem_map_of_mem (f := (·.1)) z0)
      have e1' : ∀ y ∈ [xL, dL, pL], @Ne Nat f1 y := apF f1 (List.mem_map_of_mem (f := (·.1)) z1)
      have e2' : ∀ y ∈ [xL, dL, pL], @Ne Nat f2 y := apF f2 (List.mem_map_of_mem (f := (·.1)) z2)
      k_steps
      refine hret _ [(D9, lst [.ref f0, .ref f1, .ref f2]), (f0, listOf (List.toArray x0) n0), (f1, listOf (List.toArray x1) n1'), (f2, listOf (List.toArray x2) n2'), (xL, instObj 110 dL), (dL, dictOf [{ hash := PyData.keyHash w.params (Str.ofString "lineno"), key := Value.str (Str.ofString "lineno") e1, val := Value.int (lv) bl }, { hash := PyData.keyHash w.params (Str.ofString "instream"), key := Value.str (Str.ofString "instream") e2, val := Value.ref xS }, { hash := PyData.keyHash w.params (Str.ofString "whitespace"), key := Value.str (Str.ofString "whitespace") e3, val := Value.str (Str.ofString "\n\t\r ") f3 }, { hash := PyData.keyHash w.params (Str.ofString "pushback"), key := Value.str (Str.ofString "pushback") e4, val := Value.ref pL }] 4), (pL, listOf #[] m9), (lw, listOf #[.str (strL (bw z o b0)) u0, .str (strL (bw z o b1)) u1, .str (strL (bw z o b2)) u2] kw)] _ _ (in8 D9 f0 f1 f2 x0 x1 x2 n0 (in4 n1' n2' m9 _ ⟨rfl, rfl, ⟨hx0, hx1, hx2⟩, ⟨Ne.symm (apE _ (.head _) _ (.head _)), Ne.symm (apE _ (.tail _ (.head _)) _ (.head _)), Ne.symm (apE _ (.tail _ (.tail _ (.head _))) _ (.head _))⟩, ⟨e0 _ (.head _), e0 _ (.tail _ (.head _)), e0 _ (.tail _ (.tail _ (.head _)))⟩, ⟨e1' _ (.head _), e1' _ (.tail _ (.head _)), e1' _ (.tail _ (.tail _ (.head _)))⟩, ⟨e2' _ (.head _), e2' _ (.tail _ (.head _)), e2' _ (.tail _ (.tail _ (.head _)))⟩⟩)) (by assumption) (news_pick (by assumption) ?s1) (apart_pick (by assumption) ?s2)
      case s1 => walk_at "m subM"
      case s2 => walk_at "m subM"
end
section
local macro_rules | `(tactic| walk_at "call ref") => `(tactic| (k_here; (with_reducible rename Mark9 => mk9); refine hold_out ?_))
local macro_rules | `(tactic| walk_at "compareOp NotEq ref ref") => `(tactic| (k_here; refine hold_out ?_))
theorem wOff_S_lc : True := by
  w_top off
  trivial
section
/-- what the text is read to between two words -/
def Gap (rs : List Nat) : Prop := rs.length ≤ 1 ∧ Reads rs [] [] ∧ ∀ r wd rr, Reads r wd rr → Reads (rs ++ r) wd rr
theorem gap_nil : Gap [] := ⟨Nat.zero_le _, .done, fun _ _ _ h => h⟩
theorem gap_sk (a : Nat) : Gap (sk a) := ⟨sk_len a, reads_end a, fun _ _ _ h => reads_sk h⟩
theorem encs_len9 (z o : Nat) : ∀ as : List Nat, (as.flatMap (encWord z o)).length ≤ 20 * as.length
  | [] => Nat.zero_le _
  | a :: as => by
    have h1 := enc_len z o a
    have h2 := encs_len9 z o as
    rw [List.flatMap_cons, List.length_append, List.length_cons]
    omega
theorem datAll_strs {news : Led} {vs : List Value} {ps : List Str} (h : StrsAre vs ps) : DatAll news vs (ps.map Dat.str) := by
  induction h with
  | nil => exact .nil
  | cons p t _ ih => exact .cons (.str _ _) ih
theorem strs_at {vs : List Value} {ps : List Str} (h : StrsAre vs ps) : vs.length = ps.length := by
  have := DatAll.length (datAll_strs (news := []) h)
  rw [List.length_map] at this; exact this
theorem lc {s6 s7 : Stmt} (b6 : lawBody[6]? = some s6) (b7 : lawBody[7]? = some s7) (w : World) {lscope : Scope} {A fa : Addr} {cd : Value} (hsc : lawScope = lscope) {p : Program} {loose : List Str} {mean : ExcName → Option Value} {mg mb : Str → Option Value} {g : Heap} (B : Below callerA g [] g) (X : (Mine.hd.heap_39 w.params).In g) (T : Top p loose mean mg mb g) {EV : Value → Shared → Prop} {Q : Flow → Shared → Prop} {s : Shared} {m : Str → Option Value} (F : Fr g A s.heap m) {o3 o4 o5 : Obj} {lN : Addr} {nv : List Value} {nN n : Nat} {u3 u4 bl : Tok} {as : List Nat} {z o : Nat} {vs : List Value} {xL dL : Addr} {e1 e2 e3 e4 f3 : Tok} {xS pL : Addr} {ML : List Value → Nat → Int → Tok → Led} {TL : Led}
   (hgt : ∀ (vs : List Value) (rs wd rr : List Nat) (n : Nat) (lv : Int) (bl : Tok), StrsAre vs (rs.reverse.map sg) → rs.length ≤ 62 → 0 ≤ lv ∧ lv + rs.length ≤ 2000 → Reads rs wd rr → Spec w (.ref 100) [.ref xL] 8 60 [] (ML vs n lv bl) (fun r nw => ∃ vs' n' t' lv' bl', nw = ML vs' n' lv' bl' ∧ StrsAre vs' (rr.reverse.map sg) ∧ r = .str (strL wd) t' ∧ 0 ≤ lv' ∧ lv' + rr.length ≤ 2000))
   (hx : ∀ vs n lv bl, (xL, instObj 110 dL) ∈ ML vs n lv bl) (hd : ∀ vs n lv bl, (dL, dictOf [{ hash := PyData.keyHash w.params (Str.ofString "lineno"), key := Value.str (Str.ofString "lineno") e1, val := Value.int (lv) bl }, { hash := PyData.keyHash w.params (Str.ofString "instream"), key := Value.str (Str.ofString "instream") e2, val := Value.ref xS }, { hash := PyData.keyHash w.params (Str.ofString "whitespace"), key := Value.str (Str.ofString "whitespace") e3, val := Value.str (Str.ofString "\n\t\r ") f3 }, { hash := PyData.keyHash w.params (Str.ofString "pushback"), key := Value.str (Str.ofString "pushback") e4, val := Value.ref pL }] 4) ∈ ML vs n lv bl) (hX : ∀ vs n lv bl, Apart (ML vs n lv bl) TL)
   (N : News g A s.heap (ML vs n 1 bl ++ TL)) (mN : (lN, listOf (List.toArray nv) nN) ∈ TL) (m3 : (A + 1 + 1 + 1, o3) ∈ TL) (m4 : (A + 1 + 1 + 1 + 1, o4) ∈ TL) (m5 : (A + 1 + 1 + 1 + 1 + 1, o5) ∈ TL)
   (hzo : (z, o) ∈ zoL) (hN : IntsAre nv (as.map fun a => ((a : Nat) : Int))) (hl3 : as.length ≤ 3) (hn : ∀ a ∈ as, a < 128) (d3 : o3.data = .cell (some (.str (sg z) u3))) (d4 : o4.data = .cell (some (.str (sg o) u4))) (d5 : o5.data = .cell (some (.ref xL)))
   (hm : m (Str.ofString "numbers") = some (.ref lN)) (hvs : StrsAre vs ((as.flatMap (encWord z o)).reverse.map sg))
   (K : ∀ (lW : Addr) (ws : List Value) (vs : List Value) (n : Nat) (lv : Int) (bl : Tok) (rs : List Nat) (kw : Nat) (h' : Heap) (tk' : Nat) (m' : Str → Option Value), StrsAre ws (as.map fun a => strL (wordL z o a)) → Gap rs → StrsAre vs (rs.reverse.map sg) → 0 ≤ lv ∧ lv + rs.length ≤ 2000 → Fr g A h' m' → News g A h' ((lW, listOf (List.toArray ws) kw) :: (ML vs n lv bl ++ TL))
      → Apart [(lW, listOf (List.toArray ws) kw)] (ML vs n lv bl ++ TL) → m' (Str.ofString "words") = some (.ref lW) → Q .next { s with heap := h', toks := tk' }) :
   wpAny (model PySem.Challenge.rw_sw0064_01.row.prog w) (callerA.deeper (envOfC (Str.ofString "law") lscope A fa cd)) (execs [s6, s7] (envOfC (Str.ofString "law") lscope A fa cd)) Q EV s := by
  change some _ = _ at b6
  replace b6 := Option.some.inj b6
  subst b6
  change some _ = _ at b7
  replace b7 := Option.some.inj b7
  subst b7
  change Scope.mk _ _ _ _ _ = _ at hsc
  cases hsc
  revert X
  k_fill
  intro X
  have hnl : nv.length = as.length := by rw [IntsAre.length hN, List.length_map]
  have hsz : nv.toArray.size ≤ sizeLine := by rw [List.size_toArray, hnl]; exact Nat.le_trans hl3 (by decide)
  have mN0 : (lN, listOf (List.toArray nv) nN) ∈ ML vs n 1 bl ++ TL := List.mem_append_right _ mN
  k_steps
  refine gRest_indQ (fun i ys nw => ∃ rs vs n lv bl, nw = ML vs n lv bl ++ TL ∧ Gap rs ∧ StrsAre vs ((rs ++ (as.drop i).flatMap (encWord z o)).reverse.map sg) ∧ (0 ≤ lv ∧ lv + (rs ++ (as.drop i).flatMap (encWord z o)).length ≤ 2000) ∧ StrsAre ys ((as.take i).map fun a => strL (wordL z o a))) ⟨[], vs, n, 1, bl, rfl, gap_nil, hvs, ⟨by decide, by have := encs_len9 z o as; rw [List.nil_append, List.drop_zero]; omega⟩, .nil⟩ ?_ ?_
  · (refine postI ?_; intro G9 hG9; rintro i ys nw hi hP9; refine ex5 hP9 ?_; clear hP9; intro rs vs1 n1 lv1 bl1 hP9; refine an5 hP9 ?_; clear hP9; rintro rfl hG hv1 hlv1 hy; refine hG9 _ _ _ ?_; clear hG9 G9; refine postB ?_; intro G9 hG9; rintro CC oC9 D9 m₂ h9 tk9 its E' hP9; refine ex1 hP9 ?_; clear hP9; intro v hP9; refine an2 hP9 ?_; clear hP9; intro hv9 hmv; refine hG9 _ _ _ _ _ _ _ _ ?_; clear hG9 G9; rintro hNs hits F₁ N₁ ap Qy Qs cQ cS)
    (refine ex1 (map1 hits) ?_; intro oI hP9; revert hP9; rintro rfl)
    simp only [List.cons_append, List.nil_append] at N₁
    have hi8 : i < as.length := by rw [← hnl]; exact hi
    have ha : as[i]? = some as[i] := List.getElem?_eq_getElem hi8
    rw [List.drop_eq_getElem_cons hi8, List.flatMap_cons] at hv1 hlv1
    have hle := encs_len9 z o (as.drop (i + 1))
    have hle2 := enc_len z o as[i]
    rw [List.length_drop] at hle
    generalize as[i] = a at *
    have hx1 := List.mem_append_left TL (hx vs1 n1 lv1 bl1)
    have hd1 := List.mem_append_left TL (hd vs1 n1 lv1 bl1)
    have hm5 : (A + 1 + 1 + 1 + 1 + 1, o5) ∈ ML vs1 n1 lv1 bl1 ++ TL := List.mem_append_right _ m5
    show wpAny _ _ _ _ _ _
    have mk9 := mark9
    k_steps
    refine hold_in ?_
    rename_i I9 mk9 xx9
    show wpAny _ _ (call (.ref 100) [.ref xL]) _ _ _
    refine' Spec.use (rest := [(I9, oI), (CC, oC9), (D9, lst ys)] ++ TL) (hgt vs1 (rs ++ (encWord z o a ++ (as.drop (i + 1)).flatMap (encWord z o))) (wordL z o a) (sk a ++ (as.drop (i + 1)).flatMap (encWord z o)) n1 lv1 bl1 hv1 (by have := hG.1; simp only [List.length_append]; omega) hlv1 (hG.2.2 _ _ _ (reads_word z o a _))) ?kB ?kF ?kX ?kN ?kap (atAll_nil _) ?kdr ?kT ?kd ?ku ?_
    case kB => k_asm
    case kF => k_asm
    case kX => k_asm
    case kT => k_asm
    case kN => ((rename News _ _ _ _ => N9); exact kst_newsOf N9 (sub_appI (sub_skip (sub_skip (sub_skip (sub_appL sub_refl)))) (sub_cons (by k_mem) (sub_cons (by k_mem) (sub_cons (by k_mem) (sub_skip (sub_skip (sub_skip (sub_appR sub_refl)))))))))
    case kap => exact apart_two (apart_symm (apart_mono ap sub_refl (sub_appL sub_refl))) (hX _ _ _ _)
    case kdr => exact apart_nil _
    case kd => decide +kernel
    case ku => decide +kernel
    (refine postG ?_; intro G9 hG9; rintro r5 new5 h5 tk5 hP9; refine ex5 hP9 ?_; clear hP9; intro vs5 n5 t5 lv5 bl5 hP9; refine an4 hP9 ?_; clear hP9; rintro rfl hv5 rfl hlv5; refine hG9 _ _ _ _ ?_; clear hG9 G9; rintro F5 N5 ap5)
    try dsimp only
    k_steps
    refine cQ _ _ _ (ML vs5 n5 lv5 bl5 ++ TL) F5 (show News _ _ _ ((I9, oI) :: (CC, oC9) :: (D9, lst ys) :: (ML vs5 n5 lv5 bl5 ++ TL)) from kst_newsOf N5 (sub_cons (List.mem_append_right _ (.head _)) (sub_cons (List.mem_append_right _ (.tail _ (.head _))) (sub_cons (List.mem_append_right _ (.tail _ (.tail _ (.head _)))) (sub_appI (sub_appL sub_refl) (sub_appR (sub_appR sub_refl))))))) (apart_two (apart_symm (apart_mono ap5 sub_refl (sub_appL sub_refl))) (apart_mono ap sub_refl (sub_appR sub_refl))) (List.mem_append_right _ mN) ⟨sk a, vs5, n5, lv5, bl5, rfl, gap_sk a, hv5, hlv5, ?_⟩
    rw [List.take_add_one, ha, List.map_append]
    exact strs_snoc hy
  · (refine postE ?_; intro G9 hG9; rintro ys nw hP9; refine ex5 hP9 ?_; clear hP9; intro rs vs1 n1 lv1 bl1 hP9; refine an5 hP9 ?_; clear hP9; rintro rfl hG hv1 hlv1 hy; refine hG9 _ _ ?_; clear hG9 G9; rintro D9 h9 tk9 F₁ N₁ ap)
    have e9 : nv.toArray.size = as.length := by rw [List.size_toArray, hnl]
    rw [e9, List.drop_length, List.flatMap_nil, List.append_nil] at hv1 hlv1
    rw [e9, List.take_length] at hy
    generalize hTP : (ML vs1 n1 lv1 bl1 ++ TL) = TP at *
    have hm3 : (A + 1 + 1 + 1, o3) ∈ TP := by rw [← hTP]; exact List.mem_append_right _ m3
    have hm4 : (A + 1 + 1 + 1 + 1, o4) ∈ TP := by rw [← hTP]; exact List.mem_append_right _ m4
    have hmN : (lN, listOf (List.toArray nv) nN) ∈ TP := by rw [← hTP]; exact List.mem_append_right _ mN
    have mk9 := mark9
    k_steps
    refine gRest_indQ (fun i zs nw => nw = (D9, lst ys) :: TP ∧ StrsAre zs ((as.take i).map fun a => strL (wordL z o a))) ⟨rfl, .nil⟩ ?_ ?_
    · (refine postI ?_; intro G9 hG9; rintro i zs nw hi hP9; refine an2 hP9 ?_; clear hP9; rintro rfl hz; refine hG9 _ _ _ ?_; clear hG9 G9; refine postB ?_; intro G9 hG9; rintro CC oC9 D8 m₂ h8 tk8 its E' hP9; refine ex1 hP9 ?_; clear hP9; intro v hP9; refine an2 hP9 ?_; clear hP9; intro hv9 hmv; refine hG9 _ _ _ _ _ _ _ _ ?_; clear hG9 G9; rintro hNs hits F₂ N₂ ap8 Qy Qs cQ cS)
      (refine ex1 (map1 hits) ?_; intro oI hP9; revert hP9; rintro rfl)
      simp only [List.cons_append, List.nil_append] at N₂
      (refine ex2 (ints_at hN hv9) ?_; intro n t hP9; refine an2 hP9 ?_; clear hP9; rintro rfl hn')
      rw [List.getElem?_map] at hn'
      (refine ex1 (Option.map_eq_some_iff.mp hn') ?_; intro a hP9; refine an2 hP9 ?_; clear hP9; rintro ha rfl)
      have ha8 := hn a (List.mem_of_getElem? ha)
      show wpAny _ _ _ _ _ _
      k_steps
      refine hold_in ?_
      refine' Spec.use (rest := _) (word_spec w z o a (sg z) (sg o) _ _ _ _ rfl rfl rfl ha8) ?kB ?kF ?kX ?kN ?kap (atAll_nil _) ?kdr ?kT ?kd ?ku ?_
      case kB => k_asm
      case kF => k_asm
      case kX => k_asm
      case kT => k_asm
      case kN => exact N₂
      case kap => exact apart_nil _
      case kdr => exact apart_nil _
      case kd => decide +kernel
      case ku => decide +kernel
      (refine postG ?_; intro G9 hG9; rintro r5 new5 h5 tk5 hP9; refine an2 hP9 ?_; clear hP9; rintro rfl hP9; refine ex1 hP9 ?_; clear hP9; intro t5 hP9; revert hP9; rintro rfl; refine hG9 _ _ _ _ ?_; clear hG9 G9; rintro F5 N5 ap5)
      simp only [List.nil_append] at N5
      try dsimp only
      k_steps
      exact cQ _ _ _ _ F5 N5 ap8 (.tail _ hmN) ⟨rfl, by rw [List.take_add_one, ha, List.map_append]; exact strs_snoc hz⟩
    · (refine postE ?_; intro G9 hG9; rintro zs nw hP9; refine an2 hP9 ?_; clear hP9; rintro rfl hz; refine hG9 _ _ ?_; clear hG9 G9; rintro D8 h8 tk8 F8 N8 ap8)
      rw [e9, List.take_length] at hz
      k_steps
      refine hold_in ?_
      (rename News _ _ _ _ => N7)
      refine kqd_ne N7 (a := D9) (b := D8) (by k_mem) rfl rfl (datAll_strs hy) (fun _ h => h) (by k_mem) rfl rfl (datAll_strs hz) (fun _ h => h) ?ok ?ok (by rw [units_deeper, units_caller]; decide +kernel) ?_
      case ok =>
        intro d hd
        (refine ex1 (List.mem_map.mp hd) ?_; intro x hP9; refine an2 hP9 ?_; clear hP9; rintro hx rfl)
        (refine ex1 (List.mem_map.mp hx) ?_; intro a hP9; refine an2 hP9 ?_; clear hP9; rintro ha rfl)
        simp only [kqdOk]
        exact word_ok hzo (hn a ha)
      simp only [eq_self, decide_true, Bool.not_true]
      k_steps
      (rename News _ _ _ _ => N6)
      (rename Fr _ _ _ _ => F6)
      subst hTP
      exact K D9 ys vs1 n1 lv1 bl1 rs _ _ _ _ hy hG hv1 hlv1 F6 (kst_newsOf N6 (sub_skip sub_refl)) ap rfl
end
theorem wOff_S_ld : True := by
  w_top off
  trivial
section
theorem ld {s8 : Stmt} (b8 : lawBody[8]? = some s8) (w : World) {lscope : Scope} {A fa : Addr} {cd : Value} (hsc : lawScope = lscope) {p : Program} {loose : List Str} {mean : ExcName → Option Value} {mg mb : Str → Option Value} {g : Heap} (B : Below callerA g [] g) (X : (Mine.hd.heap_39 w.params).In g) (T : Top p loose mean mg mb g) {EV : Value → Shared → Prop} {Q : Flow → Shared → Prop} {s : Shared} {m : Str → Option Value} (F : Fr g A s.heap m) {o4 : Obj} {lW : Addr} {ws : List Value} {nW : Nat} {u4 : Tok} {z o : Nat} {as : List Nat} {TL : Led}
   (N : News g A s.heap TL) (mW : (lW, listOf (List.toArray ws) nW) ∈ TL) (m4 : (A + 1 + 1 + 1 + 1, o4) ∈ TL) (d4 : o4.data = .cell (some (.str (sg o) u4))) (hl : ws.length = as.length) (hl9 : ws.length ≤ 9)
   (hW : ∀ (i : Nat) (v : Value) (a : Nat), ws[i]? = some v → as[i]? = some a → ∃ t, v = .str (strL (wordL z o a)) t) (hm : m (Str.ofString "words") = some (.ref lW))
   (K : ∀ (lD : Addr) (fs : List Value) (FL : Led) (nD : Nat) (h' : Heap) (tk' : Nat) (m' : Str → Option Value), fs.length = as.length → (∀ (i : Nat) (v : Value) (a : Nat), fs[i]? = some v → as[i]? = some a → ∃ f x n, v = .ref f ∧ (f, listOf (List.toArray x) n) ∈ FL ∧ IntsAre x (figL o (wordL z o a).reverse)) →
      Fr g A h' m' → News g A h' ((lD, listOf (List.toArray fs) nD) :: (FL ++ TL)) → Apart ((lD, listOf (List.toArray fs) nD) :: FL) TL → (∀ y, y ≠ Str.ofString "drawn" → m' y = m y) → m' (Str.ofString "drawn") = some (.ref lD) → Q .next { s with heap := h', toks := tk' }) :
   wpAny (model PySem.Challenge.rw_sw0064_01.row.prog w) (callerA.deeper (envOfC (Str.ofString "law") lscope A fa cd)) (execs [s8] (envOfC (Str.ofString "law") lscope A fa cd)) Q EV s := by
  change some _ = _ at b8
  replace b8 := Option.some.inj b8
  subst b8
  change Scope.mk _ _ _ _ _ = _ at hsc
  cases hsc
  revert X
  k_fill
  intro X
  have hsz : ws.toArray.size ≤ sizeLine := by rw [List.size_toArray]; exact Nat.le_trans hl9 (by decide)
  k_steps
  refine gRest_indQ (fun i ys nw => ∃ FL, nw = FL ++ TL ∧ ys.length = i ∧ Apart FL TL ∧ ∀ (i : Nat) (v : Value) (a : Nat), ys[i]? = some v → as[i]? = some a → ∃ f x n, v = .ref f ∧ (f, listOf (List.toArray x) n) ∈ FL ∧ IntsAre x (figL o (wordL z o a).reverse)) ⟨[], rfl, rfl, apart_nil _, fun _ _ _ h => by simp at h⟩ ?_ ?_
  · (refine postI ?_; intro G9 hG9; rintro i ys nw hi hP9; refine ex1 hP9 ?_; clear hP9; intro FL hP9; refine an4 hP9 ?_; clear hP9; rintro rfl hy hap hY; refine hG9 _ _ _ ?_; clear hG9 G9; refine postB ?_; intro G9 hG9; rintro CC oC9 D9 m₂ h9 tk9 its E' hP9; refine ex1 hP9 ?_; clear hP9; intro v hP9; refine an2 hP9 ?_; clear hP9; intro hv9 hmv; refine hG9 _ _ _ _ _ _ _ _ ?_; clear hG9 G9; rintro hNs hits F₁ N₁ ap Qy Qs cQ cS)
    (refine ex1 (map1 hits) ?_; intro oI hP9; revert hP9; rintro rfl)
    simp only [List.cons_append, List.nil_append] at N₁
    have hv8 : ws[i]? = some v := by rw [← hv9, List.getElem?_toArray]
    have hi8 : i < as.length := by rw [← hl]; exact hi
    have ha : as[i]? = some as[i] := List.getElem?_eq_getElem hi8
    (refine ex1 (hW i v _ hv8 ha) ?_; intro t hP9; revert hP9; rintro rfl)
    have m4' : (A + 1 + 1 + 1 + 1, o4) ∈ FL ++ TL := List.mem_append_right _ m4
    show wpAny _ _ _ _ _ _
    have mk9 := mark9
    k_steps
    refine hold_in ?_
    refine' Spec.use (rest := _) (fig_spec w o (sg o) (strL (wordL z o as[i])) (wordL z o as[i]) _ _ rfl rfl (word_len _ _ _)) ?kB ?kF ?kX ?kN ?kap (atAll_nil _) ?kdr ?kT ?kd ?ku ?_
    case kB => k_asm
    case kF => k_asm
    case kX => k_asm
    case kT => k_asm
    case kN => exact N₁
    case kap => exact apart_nil _
    case kdr => exact apart_nil _
    case kd => decide +kernel
    case ku => decide +kernel
    (refine postG ?_; intro G9 hG9; rintro r5 new5 h5 tk5 hP9; refine ex3 hP9 ?_; clear hP9; intro D10 vs10 n10 hP9; refine an3 hP9 ?_; clear hP9; rintro rfl rfl hI10; refine hG9 _ _ _ _ ?_; clear hG9 G9; rintro F5 N5 ap5)
    simp only [List.cons_append, List.nil_append] at N5
    try dsimp only
    k_steps
    refine cQ _ _ _ ((D10, listOf (List.toArray vs10) n10) :: (FL ++ TL)) F5 (kst_newsOf N5 (by walk_at "m sub")) (apart_newR ap5 (by walk_at "m sub") ap) (.tail _ (List.mem_append_right _ mW)) ⟨_ :: FL, rfl, by rw [List.length_append, hy]; rfl, apart_newL ap5 (sub_skip (sub_skip (sub_skip (sub_appR sub_refl)))) hap, fun j v a hv hja => ?_⟩
    rcases Nat.lt_trichotomy j ys.length with hj | hj | hj
    · rw [List.getElem?_append_left hj] at hv
      (refine ex3 (hY j v a hv hja) ?_; intro f x n hP9; refine an3 hP9 ?_; clear hP9; intro e1 e2 e3)
      exact ⟨f, x, n, e1, .tail _ e2, e3⟩
    · rw [hj, List.getElem?_append_right (Nat.le_refl _), Nat.sub_self] at hv
      cases hv
      rw [hj, hy, ha] at hja
      cases hja
      exact ⟨D10, vs10, n10, rfl, .head _, hI10⟩
    · rw [List.getElem?_eq_none (by rw [List.length_append]; exact hj)] at hv; cases hv
  · (refine postE ?_; intro G9 hG9; rintro ys nw hP9; refine ex1 hP9 ?_; clear hP9; intro FL hP9; refine an4 hP9 ?_; clear hP9; rintro rfl hy hap hY; refine hG9 _ _ ?_; clear hG9 G9; rintro D9 h9 tk9 F₁ N₁ ap)
    k_steps
    (rename News _ _ _ _ => N6)
    (rename Fr _ _ _ _ => F6)
    exact K D9 ys FL _ _ _ _ (by rw [hy, List.size_toArray, hl]) hY F6 N6 (apart_newL ap (sub_appR sub_refl) hap) (fun y hy => if_neg hy) rfl
end
theorem wOff_S_le : True := by
  w_top off
  trivial
section
theorem le {s9 : Stmt} (b9 : lawBody[9]? = some s9) (w : World) {lscope : Scope} {A fa : Addr} {cd : Value} (hsc : lawScope = lscope) {p : Program} {loose : List Str} {mean : ExcName → Option Value} {mg mb : Str → Option Value} {g : Heap} (B : Below callerA g [] g) (X : (Mine.hd.heap_39 w.params).In g) (T : Top p loose mean mg mb g) {EV : Value → Shared → Prop} {Q : Flow → Shared → Prop} {s : Shared} {m : Str → Option Value} (F : Fr g A s.heap m) {o3 o4 o5 : Obj} {lW : Addr} {np kw : Nat} {u3 u4 t0 t1 t2 bl : Tok} {lv : Int} {a0 a1' a2' : Nat} {z o : Nat} {xS : Addr} {xL dL pL : Addr} {e1 e2 e3 f3 e4 : Tok} {TL : Led} (hord : @LT.lt Nat _ dL xL ∧ @LT.lt Nat _ xL pL)
   (N : News g A s.heap ([(lW, listOf #[.str (strL (wordL z o a0)) t0, .str (strL (wordL z o a1')) t1, .str (strL (wordL z o a2')) t2] kw), (xL, instObj 110 dL), (dL, dictOf [{ hash := PyData.keyHash w.params (Str.ofString "lineno"), key := Value.str (Str.ofString "lineno") e1, val := Value.int (lv) bl }, { hash := PyData.keyHash w.params (Str.ofString "instream"), key := Value.str (Str.ofString "instream") e2, val := Value.ref xS }, { hash := PyData.keyHash w.params (Str.ofString "whitespace"), key := Value.str (Str.ofString "whitespace") e3, val := Value.str (Str.ofString "\n\t\r ") f3 }, { hash := PyData.keyHash w.params (Str.ofString "pushback"), key := Value.str (Str.ofString "pushback") e4, val := Value.ref pL }] 4), (pL, listOf #[] np)] ++ TL)) (hzo : (z, o) ∈ zoL) (m3 : (A + 1 + 1 + 1, o3) ∈ TL) (m4 : (A + 1 + 1 + 1 + 1, o4) ∈ TL) (m5 : (A + 1 + 1 + 1 + 1 + 1, o5) ∈ TL) (d3 : o3.data = .cell (some (.str (sg z) u3))) (d4 : o4.data = .cell (some (.str (sg o) u4))) (d5 : o5.data = .cell (some (.ref xL)))
   (hapW : AptA [lW] [dL, xL, pL]) (hX : ∀ (o : Obj) (n9 : Nat), Apart [(lW, o), (xL, instObj 110 dL), (dL, dictOf [{ hash := PyData.keyHash w.params (Str.ofString "lineno"), key := Value.str (Str.ofString "lineno") e1, val := Value.int (lv) bl }, { hash := PyData.keyHash w.params (Str.ofString "instream"), key := Value.str (Str.ofString "instream") e2, val := Value.ref xS }, { hash := PyData.keyHash w.params (Str.ofString "whitespace"), key := Value.str (Str.ofString "whitespace") e3, val := Value.str (Str.ofString "\n\t\r ") f3 }, { hash := PyData.keyHash w.params (Str.ofString "pushback"), key := Value.str (Str.ofString "pushback") e4, val := Value.ref pL }] 4), (pL, listOf #[] n9)] TL) (hm : m (Str.ofString "words") = some (.ref lW))
   (K : ∀ (lR : Addr) (gs : List Value) (GL : Led) (nR np : Nat) (h' : Heap) (tk' : Nat) (m' : Str → Option Value), gs.length = 3 → (∀ (i : Nat) (v : Value) (a : Nat), gs[i]? = some v → [a0, a1', a2'][i]? = some a → ∃ f x n, v = .ref f ∧ (f, listOf (List.toArray x) n) ∈ GL ∧ IntsAre x (figs (settle (bitsW a)))) → Fr g A h' m' →
      News g A h' ((lR, listOf (List.toArray gs) nR) :: (GL ++ ([(xL, instObj 110 dL), (dL, dictOf [{ hash := PyData.keyHash w.params (Str.ofString "lineno"), key := Value.str (Str.ofString "lineno") e1, val := Value.int (lv) bl }, { hash := PyData.keyHash w.params (Str.ofString "instream"), key := Value.str (Str.ofString "instream") e2, val := Value.ref xS }, { hash := PyData.keyHash w.params (Str.ofString "whitespace"), key := Value.str (Str.ofString "whitespace") e3, val := Value.str (Str.ofString "\n\t\r ") f3 }, { hash := PyData.keyHash w.params (Str.ofString "pushback"), key := Value.str (Str.ofString "pushback") e4, val := Value.ref pL }] 4), (pL, listOf #[] np)] ++ TL))) → Apart ((lR, listOf (List.toArray gs) nR) :: GL) ([(xL, instObj 110 dL), (dL, dictOf [{ hash := PyData.keyHash w.params (Str.ofString "lineno"), key := Value.str (Str.ofString "lineno") e1, val := Value.int (lv) bl }, { hash := PyData.keyHash w.params (Str.ofString "instream"), key := Value.str (Str.ofString "instream") e2, val := Value.ref xS }, { hash := PyData.keyHash w.params (Str.ofString "whitespace"), key := Value.str (Str.ofString "whitespace") e3, val := Value.str (Str.ofString "\n\t\r ") f3 }, { hash := PyData.keyHash w.params (Str.ofString "pushback"), key := Value.str (Str.ofString "pushback") e4, val := Value.ref pL }] 4), (pL, listOf #[] np)] ++ TL) → (∀ y, y ≠ Str.ofString "settled" → m' y = m y) → m' (Str.ofString "settled") = some (.ref lR) → Q .next { s with heap := h', toks := tk' }) :
   wpAny (model PySem.Challenge.rw_sw0064_01.row.prog w) (callerA.deeper (envOfC (Str.ofString "law") lscope A fa cd)) (execs [s9] (envOfC (Str.ofString "law") lscope A fa cd)) Q EV s := by
  change some _ = _ at b9
  replace b9 := Option.some.inj b9
  subst b9
  change Scope.mk _ _ _ _ _ = _ at hsc
  cases hsc
  simp only [word_bw] at N
  have hzn := zo_ne (z, o) hzo
  revert X
  k_fill
  intro X
  simp only [List.cons_append, List.nil_append] at N
  have mk9 := mark9
  k_steps
  refine hold_in ?_
  refine' Spec.use (rest := TL) (set_spec w (xL := xL) (dL := dL) (pL := pL) (e1 := e1) (e2 := e2) (e3 := e3) (f3 := f3) (e4 := e4) (xS := xS) (lw := lW) (lv := lv) (bl := bl) (np := np) (kw := kw) z o (sg z) (sg o) _ _ t0 t1 t2 rfl rfl hzo (bitsW a0) (bitsW a1') (bitsW a2') rfl rfl rfl hord hapW) ?kB ?kF ?kX ?kN ?kap (atAll_nil _) ?kdr ?kT ?kd ?ku ?_
  case kB => k_asm
  case kF => k_asm
  case kX => k_asm
  case kT => k_asm
  case kN => ((rename News _ _ _ _ => N9); exact kst_newsOf N9 (by walk_at "m sub"))
  case kap => exact apart_mono (hX _ np) (by walk_at "m sub") sub_refl
  case kdr => exact apart_nil _
  case kd => decide +kernel
  case ku => decide +kernel
  (refine postG ?_; intro G9 hG9; rintro r1 new1 h1 tk1 hP9; refine ex8 hP9 ?_; clear hP9; intro lR g0 g1 g2 y0 y1 y2 m0 hP9; refine ex4 hP9 ?_; clear hP9; intro m1 m2 m9 nR hP9; refine an7 hP9 ?_; clear hP9; rintro rfl rfl hQ1 hQ2 hQ3 hQ4 hP9; refine an3 hQ1 ?_; clear hQ1; intro hy0 hy1 hy2; refine an3 hQ2 ?_; clear hQ2; intro q0 q1 q2; refine an3 hQ3 ?_; clear hQ3; intro q3 q4 q5; refine an3 hQ4 ?_; clear hQ4; intro q6 q7 q8; refine an3 hP9 ?_; clear hP9; intro q9 q10 q11; refine hG9 _ _ _ _ ?_; clear hG9 G9; rintro F1 N1 ap1)
  simp only [List.cons_append, List.nil_append] at N1
  rw [fig_bw hzn] at hy0 hy1 hy2
  try dsimp only
  k_steps
  (rename News _ _ _ _ => N6)
  (rename Fr _ _ _ _ => F6)
  refine K lR [.ref g0, .ref g1, .ref g2] [(g0, listOf (List.toArray y0) m0), (g1, listOf (List.toArray y1) m1), (g2, listOf (List.toArray y2) m2)] _ m9 _ _ _ rfl (fun i v a hv ha => ?_) F6 (kst_newsOf N6 (by walk_at "m sub")) (fun p hp q hq => ?_) (fun y hy => if_neg hy) rfl
  · rcases i with _ | _ | _ | i
    · cases hv; cases ha; exact ⟨g0, y0, m0, rfl, .head _, hy0⟩
    · cases hv; cases ha; exact ⟨g1, y1, m1, rfl, .tail _ (.head _), hy1⟩
    · cases hv; cases ha; exact ⟨g2, y2, m2, rfl, .tail _ (.tail _ (.head _)), hy2⟩
    · cases hv
  · rcases List.mem_append.mp hq with hq | hq
    · exact apart_of_aptA (a := [(lR, listOf (List.toArray [.ref g0, .ref g1, .ref g2]) nR), (g0, listOf (List.toArray y0) m0), (g1, listOf (List.toArray y1) m1), (g2, listOf (List.toArray y2) m2)]) (b := [(xL, instObj 110 dL), (dL, dictOf [{ hash := PyData.keyHash w.params (Str.ofString "lineno"), key := Value.str (Str.ofString "lineno") e1, val := Value.int (lv) bl }, { hash := PyData.keyHash w.params (Str.ofString "instream"), key := Value.str (Str.ofString "instream") e2, val := Value.ref xS }, { hash := PyData.keyHash w.params (Str.ofString "whitespace"), key := Value.str (Str.ofString "whitespace") e3, val := Value.str (Str.ofString "\n\t\r ") f3 }, { hash := PyData.keyHash w.params (Str.ofString "pushback"), key := Value.str (Str.ofString "pushback") e4, val := Value.ref pL }] 4), (pL, listOf #[] m9)]) (show AptA [lR, g0, g1, g2] [xL, dL, pL] by walk_at "m aptA") p hp q hq
    · exact ap1 p ((show ∀ p ∈ _, p ∈ _ by walk_at "m sub") p hp) q hq
end
theorem wOff_S_lf : True := by
  w_top off
  trivial
section
theorem figs_60 (bs : List Bool) : ∀ x ∈ figs bs, 0 ≤ x ∧ x < 2 ^ 20 := fun x hx => by have := figs_01 bs x hx; omega
theorem lf {s10 : Stmt} (b10 : lawBody[10]? = some s10) (w : World) {lscope : Scope} {A fa : Addr} {cd : Value} (hsc : lawScope = lscope) {p : Program} {loose : List Str} {mean : ExcName → Option Value} {mg mb : Str → Option Value} {g : Heap} (B : Below callerA g [] g) (X : (Mine.hd.heap_39 w.params).In g) (T : Top p loose mean mg mb g) {EV : Value → Shared → Prop} {Q : Flow → Shared → Prop} {s : Shared} {m : Str → Option Value} (F : Fr g A s.heap m) {o2 : Obj} {lT lD : Addr} {vsT fs : List Value} {nT nD : Nat} {as : List Nat} {TL : Led}
   (N : News g A s.heap TL) (mD : (lD, listOf (List.toArray fs) nD) ∈ TL) (mT : (lT, listOf (List.toArray vsT) nT) ∈ TL) (m2 : (A + 1 + 1, o2) ∈ TL) (hT : IntsAre vsT stepsL) (d2 : o2.data = .cell (some (.ref lT)))
   (hl : fs.length = as.length) (hl9 : fs.length ≤ 9) (hF : ∀ (i : Nat) (v : Value) (a : Nat), fs[i]? = some v → as[i]? = some a → ∃ f x n, v = .ref f ∧ (f, listOf (List.toArray x) n) ∈ TL ∧ IntsAre x (figs (bitsW a))) (hm : m (Str.ofString "drawn") = some (.ref lD))
   (K : ∀ (lV : Addr) (ys : List Value) (nV : Nat) (h' : Heap) (tk' : Nat) (m' : Str → Option Value), IntsAre ys (as.map fun a => wth (bitsW a)) → Fr g A h' m' → News g A h' ((lV, listOf (List.toArray ys) nV) :: TL) → Apart [(lV, listOf (List.toArray ys) nV)] TL → (∀ y, y ≠ Str.ofString "worths" → m' y = m y) → m' (Str.ofString "worths") = some (.ref lV) → Q .next { s with heap := h', toks := tk' }) :
   wpAny (model PySem.Challenge.rw_sw0064_01.row.prog w) (callerA.deeper (envOfC (Str.ofString "law") lscope A fa cd)) (execs [s10] (envOfC (Str.ofString "law") lscope A fa cd)) Q EV s := by
  change some _ = _ at b10
  replace b10 := Option.some.inj b10
  subst b10
  change Scope.mk _ _ _ _ _ = _ at hsc
  cases hsc
  revert X
  k_fill
  intro X
  have hsz : fs.toArray.size ≤ sizeLine := by rw [List.size_toArray]; exact Nat.le_trans hl9 (by decide)
  k_steps
  refine gRest_indQ (fun i ys nw => nw = TL ∧ IntsAre ys ((as.take i).map fun a => wth (bitsW a))) ⟨rfl, .nil⟩ ?_ ?_
  · (refine postI ?_; intro G9 hG9; rintro i ys nw hi hP9; refine an2 hP9 ?_; clear hP9; rintro rfl hy; refine hG9 _ _ _ ?_; clear hG9 G9; refine postB ?_; intro G9 hG9; rintro CC oC9 D9 m₂ h9 tk9 its E' hP9; refine ex1 hP9 ?_; clear hP9; intro v hP9; refine an2 hP9 ?_; clear hP9; intro hv9 hmv; refine hG9 _ _ _ _ _ _ _ _ ?_; clear hG9 G9; rintro hNs hits F₁ N₁ ap Qy Qs cQ cS)
    (refine ex1 (map1 hits) ?_; intro oI hP9; revert hP9; rintro rfl)
    simp only [List.cons_append, List.nil_append] at N₁
    have hv8 : fs[i]? = some v := by rw [← hv9, List.getElem?_toArray]
    have hi8 : i < as.length := by rw [← hl]; exact hi
    have ha : as[i]? = some as[i] := List.getElem?_eq_getElem hi8
    (refine ex3 (hF i v _ hv8 ha) ?_; intro f x n hP9; refine an3 hP9 ?_; clear hP9; rintro rfl hmf hx)
    show wpAny _ _ _ _ _ _
    have mk9 := mark9
    k_steps
    refine hold_in ?_
    refine' Spec.use (rest := _) (worth_spec w lT f stepsL (figs (bitsW as[i])) vsT x nT n 0 _ hT hx rfl (by rw [figs_len]; exact (show (7 : Nat) ≤ 27 by decide)) (fun x hx => figs_60 _ x hx)) ?kB ?kF ?kX ?kN ?kap ?kro ?kdr ?kT ?kd ?ku ?_
    case kB => k_asm
    case kF => k_asm
    case kX => k_asm
    case kT => k_asm
    case kN => exact N₁
    case kap => exact apart_nil _
    case kd => decide +kernel
    case ku => decide +kernel
    case kro => exact fun q hq => (N₁ q ((show ∀ q ∈ [(lT, listOf (List.toArray vsT) nT), (f, listOf (List.toArray x) n)], q ∈ _ by walk_at "m sub") q hq)).1
    case kdr => exact apart_symm (apart_nil _)
    (refine postG ?_; intro G9 hG9; rintro r5 new5 h5 tk5 hP9; refine an2 hP9 ?_; clear hP9; rintro rfl hP9; refine ex1 hP9 ?_; clear hP9; intro t5 hP9; revert hP9; rintro rfl; refine hG9 _ _ _ _ ?_; clear hG9 G9; rintro F5 N5 ap5)
    simp only [List.nil_append] at N5
    try dsimp only
    k_steps
    exact cQ _ _ _ _ F5 N5 ap (by k_mem) ⟨rfl, by rw [List.take_add_one, ha, List.map_append]; exact ints_snoc hy⟩
  · (refine postE ?_; intro G9 hG9; rintro ys nw hP9; refine an2 hP9 ?_; clear hP9; rintro rfl hy; refine hG9 _ _ ?_; clear hG9 G9; rintro D9 h9 tk9 F₁ N₁ ap)
    k_steps
    (rename News _ _ _ _ => N6)
    (rename Fr _ _ _ _ => F6)
    have hy' : IntsAre ys (as.map fun a => wth (bitsW a)) := by rw [← List.take_of_length_le (l := as) (i := fs.toArray.size) (by rw [List.size_toArray, hl]; exact Nat.le_refl _)]; exact hy
    exact K D9 ys _ _ _ _ hy' F6 N6 ap (fun y hy => if_neg hy) rfl
end
theorem wOff_S_lg : True := by
  w_top off
  trivial
section
theorem lg {s11 : Stmt} (b11 : lawBody[11]? = some s11) (w : World) {lscope : Scope} {A fa : Addr} {cd : Value} (hsc : lawScope = lscope) {p : Program} {loose : List Str} {mean : ExcName → Option Value} {mg mb : Str → Option Value} {g : Heap} (B : Below callerA g [] g) (X : (Mine.hd.heap_39 w.params).In g) (T : Top p loose mean mg mb g) {EV : Value → Shared → Prop} {Q : Flow → Shared → Prop} {s : Shared} {m : Str → Option Value} (F : Fr g A s.heap m) {o5 : Obj} {n : Nat} {bl : Tok} {lv : Int} {rs : List Nat} {vs : List Value} {xL dL : Addr} {e1 e2 e3 e4 f3 : Tok} {xS pL : Addr} {ML : List Value → Nat → Int → Tok → Led} {TL : Led}
   (hgt : ∀ (vs : List Value) (rs wd rr : List Nat) (n : Nat) (lv : Int) (bl : Tok), StrsAre vs (rs.reverse.map sg) → rs.length ≤ 62 → 0 ≤ lv ∧ lv + rs.length ≤ 2000 → Reads rs wd rr → Spec w (.ref 100) [.ref xL] 8 60 [] (ML vs n lv bl) (fun r nw => ∃ vs' n' t' lv' bl', nw = ML vs' n' lv' bl' ∧ StrsAre vs' (rr.reverse.map sg) ∧ r = .str (strL wd) t' ∧ 0 ≤ lv' ∧ lv' + rr.length ≤ 2000))
   (hx : ∀ vs n lv bl, (xL, instObj 110 dL) ∈ ML vs n lv bl) (hd : ∀ vs n lv bl, (dL, dictOf [{ hash := PyData.keyHash w.params (Str.ofString "lineno"), key := Value.str (Str.ofString "lineno") e1, val := Value.int (lv) bl }, { hash := PyData.keyHash w.params (Str.ofString "instream"), key := Value.str (Str.ofString "instream") e2, val := Value.ref xS }, { hash := PyData.keyHash w.params (Str.ofString "whitespace"), key := Value.str (Str.ofString "whitespace") e3, val := Value.str (Str.ofString "\n\t\r ") f3 }, { hash := PyData.keyHash w.params (Str.ofString "pushback"), key := Value.str (Str.ofString "pushback") e4, val := Value.ref pL }] 4) ∈ ML vs n lv bl) (hX : ∀ vs n lv bl, Apart (ML vs n lv bl) TL)
   (N : News g A s.heap (ML vs n lv bl ++ TL)) (m5 : (A + 1 + 1 + 1 + 1 + 1, o5) ∈ TL) (d5 : o5.data = .cell (some (.ref xL))) (hG : Gap rs) (hvs : StrsAre vs (rs.reverse.map sg)) (hlv : 0 ≤ lv ∧ lv + rs.length ≤ 2000)
   (K : ∀ (h' : Heap) (tk' : Nat), Fr g A h' m → News g A h' TL → Q .next { s with heap := h', toks := tk' }) :
   wpAny (model PySem.Challenge.rw_sw0064_01.row.prog w) (callerA.deeper (envOfC (Str.ofString "law") lscope A fa cd)) (execs [s11] (envOfC (Str.ofString "law") lscope A fa cd)) Q EV s := by
  change some _ = _ at b11
  replace b11 := Option.some.inj b11
  subst b11
  change Scope.mk _ _ _ _ _ = _ at hsc
  cases hsc
  revert X
  k_fill
  intro X
  have hx1 := List.mem_append_left TL (hx vs n lv bl)
  have hd1 := List.mem_append_left TL (hd vs n lv bl)
  have hm5 : (A + 1 + 1 + 1 + 1 + 1, o5) ∈ ML vs n lv bl ++ TL := List.mem_append_right _ m5
  have mk9 := mark9
  k_steps
  refine hold_in ?_
  show wpAny _ _ (call (.ref 100) [.ref xL]) _ _ _
  refine' Spec.use (rest := TL) (hgt vs rs [] [] n lv bl hvs (Nat.le_trans hG.1 (by decide)) hlv hG.2.1) ?kB ?kF ?kX ?kN ?kap (atAll_nil _) ?kdr ?kT ?kd ?ku ?_
  case kB => k_asm
  case kF => k_asm
  case kX => k_asm
  case kT => k_asm
  case kN => ((rename News _ _ _ _ => N9); exact N9)
  case kap => exact hX _ _ _ _
  case kdr => exact apart_nil _
  case kd => decide +kernel
  case ku => decide +kernel
  (refine postG ?_; intro G9 hG9; rintro r5 new5 h5 tk5 hP9; refine ex5 hP9 ?_; clear hP9; intro vs5 n5 t5 lv5 bl5 hP9; refine an4 hP9 ?_; clear hP9; rintro rfl hv5 hr5 hlv5; refine hG9 _ _ _ _ ?_; clear hG9 G9; rintro F5 N5 ap5)
  rw [← nil_str] at hr5
  subst hr5
  try dsimp only
  k_steps
  (rename News _ _ _ _ => N6)
  (rename Fr _ _ _ _ => F6)
  exact K _ _ F6 (kst_newsOf N6 (sub_appR sub_refl))
end
theorem wOff_S_lh : True := by
  w_top off
  trivial
section
local macro_rules | `(tactic| walk_at "ite") => `(tactic| (k_here; (with_reducible rename Mark9 => mk9); refine hold_out ?_))
theorem datAll_snoc {news : Led} {v : Value} {d : Dat} : ∀ {vs : List Value} {ds : List Dat}, DatAll news vs ds → DatIn news v d → DatAll news (vs ++ [v]) (ds ++ [d])
  | _, _, .nil, h => .cons h .nil
  | _, _, .cons h1 h2, h => .cons h1 (datAll_snoc h2 h)
theorem dat_okL {f : Nat → List Int} {as : List Nat} : ∀ d ∈ as.map (fun a => Dat.list ((f a).map Dat.int)), kqdOk 8 d = true := fun d hd => by
  (refine ex1 (List.mem_map.mp hd) ?_; intro a hP9; refine an2 hP9 ?_; clear hP9; rintro _ rfl)
  exact dat_ok _
theorem lh {s12 : Stmt} (b12 : lawBody[12]? = some s12) (w : World) {lscope : Scope} {A fa : Addr} {cd : Value} (hsc : lawScope = lscope) {p : Program} {loose : List Str} {mean : ExcName → Option Value} {mg mb : Str → Option Value} {g : Heap} (B : Below callerA g [] g) (X : (Mine.hd.heap_39 w.params).In g) (T : Top p loose mean mg mb g) {EV : Value → Shared → Prop} {Q : Flow → Shared → Prop} {s : Shared} {m : Str → Option Value} (F : Fr g A s.heap m) {o2 : Obj} {lT lV lR : Addr} {vsT gs wv : List Value} {nT nR nV : Nat} {as : List Nat} {TL : Led}
   (N : News g A s.heap TL) (mR : (lR, listOf (List.toArray gs) nR) ∈ TL) (mV : (lV, listOf (List.toArray wv) nV) ∈ TL) (mT : (lT, listOf (List.toArray vsT) nT) ∈ TL) (m2 : (A + 1 + 1, o2) ∈ TL) (hT : IntsAre vsT stepsL) (d2 : o2.data = .cell (some (.ref lT)))
   (hl : gs.length = as.length) (hl9 : as.length ≤ 7) (hG : ∀ (i : Nat) (v : Value) (a : Nat), gs[i]? = some v → as[i]? = some a → ∃ f x n, v = .ref f ∧ (f, listOf (List.toArray x) n) ∈ TL ∧ IntsAre x (figs (settle (bitsW a)))) (hV : IntsAre wv (as.map fun a => wth (bitsW a)))
   (hm1 : m (Str.ofString "settled") = some (.ref lR)) (hm2 : m (Str.ofString "worths") = some (.ref lV))
   (K : ∀ (h' : Heap) (tk' : Nat), Fr g A h' m → News g A h' TL → Q .next { s with heap := h', toks := tk' }) :
   wpAny (model PySem.Challenge.rw_sw0064_01.row.prog w) (callerA.deeper (envOfC (Str.ofString "law") lscope A fa cd)) (execs [s12] (envOfC (Str.ofString "law") lscope A fa cd)) Q EV s := by
  change some _ = _ at b12
  replace b12 := Option.some.inj b12
  subst b12
  change Scope.mk _ _ _ _ _ = _ at hsc
  cases hsc
  revert X
  k_fill
  intro X
  have hsz : gs.toArray.size ≤ sizeLine := by rw [List.size_toArray, hl]; exact Nat.le_trans hl9 (by decide)
  have hsw : wv.toArray.size ≤ sizeLine := by rw [List.size_toArray, IntsAre.length hV, List.length_map]; exact Nat.le_trans hl9 (by decide)
  k_steps
  refine gRest_indQ (fun i ys nw => ∃ QL, nw = QL ++ TL ∧ DatAll QL ys ((as.take i).map fun a => Dat.list ((idx1 (figs (settle (bitsW a)))).map Dat.int))) ⟨[], rfl, .nil⟩ ?_ ?_
  · (refine postI ?_; intro G9 hG9; rintro i ys nw hi hP9; refine ex1 hP9 ?_; clear hP9; intro QL hP9; refine an2 hP9 ?_; clear hP9; rintro rfl hy; refine hG9 _ _ _ ?_; clear hG9 G9; refine postB ?_; intro G9 hG9; rintro CC oC9 D9 m₂ h9 tk9 its E' hP9; refine ex1 hP9 ?_; clear hP9; intro v hP9; refine an2 hP9 ?_; clear hP9; intro hv9 hmv; refine hG9 _ _ _ _ _ _ _ _ ?_; clear hG9 G9; rintro hNs hits F₁ N₁ ap Qy Qs cQ cS)
    (refine ex1 (map1 hits) ?_; intro oI hP9; revert hP9; rintro rfl)
    simp only [List.cons_append, List.nil_append] at N₁
    have hv8 : gs[i]? = some v := by rw [← hv9, List.getElem?_toArray]
    have hi8 : i < as.length := by rw [← hl]; exact hi
    (refine ex1 (show ∃ a, as[i]? = some a from ⟨_, List.getElem?_eq_getElem hi8⟩) ?_; intro a hP9; revert hP9; intro ha)
    (refine ex3 (hG i v _ hv8 ha) ?_; intro f x n hP9; refine an3 hP9 ?_; clear hP9; rintro rfl hmf hx)
    have hmf' : (f, listOf (List.toArray x) n) ∈ QL ++ TL := List.mem_append_right _ hmf
    have hz := size_le hx (k := 7) (by rw [figs_len]; exact Nat.le_of_eq (settle_len _)) (by decide)
    show wpAny _ _ _ _ _ _
    k_steps
    rename_i gg9 I9 cE' gg8 I8 J8
    refine gRest_indQ (fun i ws nw => nw = (I9, oI) :: (CC, oC9) :: (D9, lst ys) :: (QL ++ TL) ∧ IntsAre ws (idx1 ((figs (settle (bitsW a))).take i))) ⟨rfl, .nil⟩ ?_ ?_
    · (rintro j ws _ hj hP9; refine an2 hP9 ?_; clear hP9; rintro rfl hws; rintro CD oC8 D8 m₃ h8 tk8 its8 E8 hP9; refine ex2 hP9 ?_; clear hP9; intro u v hP9; refine an3 hP9 ?_; clear hP9; intro hQ1 hmu hmv; refine ex2 hQ1 ?_; clear hQ1; intro t x8 hP9; refine an2 hP9 ?_; clear hP9; intro hx8 huv; rintro hNs8 hits8 F₂ N₂ ap8 Qy8 Qs8 cQ8 cS8)
      (refine ex2 (map2 hits8) ?_; intro oI8 oJ8 hP9; revert hP9; rintro rfl)
      simp only [List.cons_append, List.nil_append] at N₂
      (refine an2 (show u = _ ∧ v = x8 from by simpa using huv) ?_; rintro rfl rfl)
      (refine ex2 (ints_at hx hx8) ?_; intro f9 tf hP9; refine an2 hP9 ?_; clear hP9; rintro rfl hf)
      have mk9 := mark9
      show wpAny _ _ _ _ _ _
      k_steps
      refine hold_in ?_
      cases hf1 : (f9 == 1) with
      | true =>
        have hf2 : f9 = 1 := by simpa using hf1
        rw [if_pos rfl]
        k_steps
        exact cQ8 _ _ _ _ F₂ N₂ ap8 (by k_mem) ⟨rfl, by rw [idx_take hf, if_pos hf2]; exact ints_snoc hws⟩
      | false =>
        have hf2 : ¬ f9 = 1 := by simpa using hf1
        rw [if_neg Bool.false_ne_true]
        exact cS8 _ _ _ F₂ N₂ ap8 (by k_mem) ⟨rfl, by rw [idx_take hf, if_neg hf2, List.append_nil]; exact hws⟩
    · (rintro ws _ hP9; refine an2 hP9 ?_; clear hP9; rintro rfl hws; rintro D8 h8 tk8 F₂ N₂ ap8)
      have ez : x.toArray.size = (figs (settle (bitsW a))).length := by rw [List.size_toArray]; exact IntsAre.length hx
      rw [ez, List.take_length] at hws
      k_steps
      refine cQ _ _ _ ((D8, lst ws) :: (QL ++ TL)) F₂ (kst_newsOf N₂ (by walk_at "m sub")) (apart_newR ap8 (by walk_at "m sub") ap) (.tail _ (List.mem_append_right _ mR)) ⟨(D8, lst ws) :: QL, rfl, ?_⟩
      rw [List.take_add_one, ha, List.map_append]
      exact datAll_snoc (DatAll.mono (fun _ h => .tail _ h) hy) (.list (.head _) (datAll_ints hws))
  · (refine postE ?_; intro G9 hG9; rintro ys nw hP9; refine ex1 hP9 ?_; clear hP9; intro QL hP9; refine an2 hP9 ?_; clear hP9; rintro rfl hy; refine hG9 _ _ ?_; clear hG9 G9; rintro D9 h9 tk9 F₁ N₁ ap)
    rw [take_all (by rw [List.size_toArray, hl]; exact Nat.le_refl _)] at hy
    have mV' : (lV, listOf (List.toArray wv) nV) ∈ QL ++ TL := List.mem_append_right _ mV
    have mT' : (lT, listOf (List.toArray vsT) nT) ∈ QL ++ TL := List.mem_append_right _ mT
    have m2' : (A + 1 + 1, o2) ∈ QL ++ TL := List.mem_append_right _ m2
    k_steps
    refine gRest_indQ (fun i zs nw => ∃ PL, nw = PL ++ ((D9, lst ys) :: (QL ++ TL)) ∧ DatAll PL zs ((as.take i).map fun a => Dat.list ((idx1 (figs (settle (bitsW a)))).map Dat.int))) ⟨[], rfl, .nil⟩ ?_ ?_
    · (refine postI ?_; intro G9 hG9; rintro i zs nw hi hP9; refine ex1 hP9 ?_; clear hP9; intro PL hP9; refine an2 hP9 ?_; clear hP9; rintro rfl hz; refine hG9 _ _ _ ?_; clear hG9 G9; refine postB ?_; intro G9 hG9; rintro CC oC9 D8 m₂ h8 tk8 its E' hP9; refine ex1 hP9 ?_; clear hP9; intro v hP9; refine an2 hP9 ?_; clear hP9; intro hv9 hmv; refine hG9 _ _ _ _ _ _ _ _ ?_; clear hG9 G9; rintro hNs hits F₂ N₂ ap8 Qy Qs cQ cS)
      (refine ex1 (map1 hits) ?_; intro oI hP9; revert hP9; rintro rfl)
      simp only [List.cons_append, List.nil_append] at N₂
      (refine ex2 (ints_at hV hv9) ?_; intro n t hP9; refine an2 hP9 ?_; clear hP9; rintro rfl hn)
      rw [List.getElem?_map] at hn
      (refine ex1 (Option.map_eq_some_iff.mp hn) ?_; intro a hP9; refine an2 hP9 ?_; clear hP9; rintro ha rfl)
      have mT8 : (lT, listOf (List.toArray vsT) nT) ∈ PL ++ ((D9, lst ys) :: (QL ++ TL)) := List.mem_append_right _ (.tail _ mT')
      have m28 : (A + 1 + 1, o2) ∈ PL ++ ((D9, lst ys) :: (QL ++ TL)) := List.mem_append_right _ (.tail _ m2')
      show wpAny _ _ _ _ _ _
      have mk9 := mark9
      k_steps
      refine hold_in ?_
      have hwr := wth_rng a
      refine' Spec.use (rest := _) (plc_spec w lT vsT nT (wth (bitsW a)) _ hT ⟨by omega, by omega⟩) ?kB ?kF ?kX ?kN ?kap ?kro ?kdr ?kT ?kd ?ku ?_
      case kB => k_asm
      case kF => k_asm
      case kX => k_asm
      case kT => k_asm
      case kN => exact N₂
      case kap => exact apart_nil _
      case kd => decide +kernel
      case ku => decide +kernel
      case kro => exact fun q hq => (N₂ q ((show ∀ q ∈ [(lT, listOf (List.toArray vsT) nT)], q ∈ _ by walk_at "m sub") q hq)).1
      case kdr => exact apart_symm (apart_nil _)
      (refine postG ?_; intro G9 hG9; rintro r5 new5 h5 tk5 hP9; refine ex3 hP9 ?_; clear hP9; intro D10 vs10 n10 hP9; refine an3 hP9 ?_; clear hP9; rintro rfl rfl hI10; refine hG9 _ _ _ _ ?_; clear hG9 G9; rintro F5 N5 ap5)
      simp only [List.cons_append, List.nil_append] at N5
      try dsimp only
      k_steps
      refine cQ _ _ _ ((D10, listOf (List.toArray vs10) n10) :: (PL ++ ((D9, lst ys) :: (QL ++ TL)))) F5 (kst_newsOf N5 (by walk_at "m sub")) (apart_newR ap5 (by walk_at "m sub") ap8) (.tail _ (List.mem_append_right _ (.tail _ mV'))) ⟨(D10, listOf (List.toArray vs10) n10) :: PL, rfl, ?_⟩
      rw [List.take_add_one, ha, List.map_append]
      exact datAll_snoc (DatAll.mono (fun _ h => .tail _ h) hz) (.list (.head _) (datAll_ints (by rw [places_ok a]; exact hI10)))
    · (refine postE ?_; intro G9 hG9; rintro zs nw hP9; refine ex1 hP9 ?_; clear hP9; intro PL hP9; refine an2 hP9 ?_; clear hP9; rintro rfl hz; refine hG9 _ _ ?_; clear hG9 G9; rintro D8 h8 tk8 F8 N8 ap8)
      rw [take_all (by rw [List.size_toArray, IntsAre.length hV, List.length_map]; exact Nat.le_refl _)] at hz
      k_steps
      refine hold_in ?_
      (rename News _ _ _ _ => N7)
      refine kqd_ne N7 (a := D9) (b := D8) (.tail _ (List.mem_append_right _ (.head _))) rfl rfl (DatAll.mono (fun _ h => .tail _ (List.mem_append_right _ (.tail _ (List.mem_append_left _ h)))) hy) (fun _ h => h) (by k_mem) rfl rfl (DatAll.mono (fun _ h => .tail _ (List.mem_append_left _ h)) hz) (fun _ h => h) dat_okL dat_okL (by rw [units_deeper, units_caller]; decide +kernel) ?_
      simp only [eq_self, decide_true, Bool.not_true]
      k_steps
      (rename News _ _ _ _ => N6)
      (rename Fr _ _ _ _ => F6)
      exact K _ _ F6 (kst_newsOf N6 (sub_skip (sub_appR (sub_skip (sub_appR sub_refl)))))
end
theorem wOff_S_li : True := by
  w_top off
  trivial
section
theorem figs_28 (bs : List Bool) : ∀ x ∈ figs bs, 0 ≤ x ∧ x < 2 ^ 8 := fun x hx => by have := figs_01 bs x hx; omega
theorem li {s13 s14 : Stmt} (b13 : lawBody[13]? = some s13) (b14 : lawBody[14]? = some s14) (w : World) {lscope : Scope} {A fa : Addr} {cd : Value} (hsc : lawScope = lscope) {p : Program} {loose : List Str} {mean : ExcName → Option Value} {mg mb : Str → Option Value} {g : Heap} (B : Below callerA g [] g) (X : (Mine.hd.heap_39 w.params).In g) (T : Top p loose mean mg mb g) {EV : Value → Shared → Prop} {Q : Flow → Shared → Prop} {s : Shared} {m : Str → Option Value} (F : Fr g A s.heap m) {lV lD : Addr} {fs wv : List Value} {nD nV : Nat} {as : List Nat} {TL : Led}
   (N : News g A s.heap (TL ++ [(46, tabObj #[])])) (mD : (lD, listOf (List.toArray fs) nD) ∈ TL) (mV : (lV, listOf (List.toArray wv) nV) ∈ TL) (hat0 : Apart [(46, tabObj #[])] TL)
   (hl : fs.length = as.length) (hl9 : as.length ≤ 9) (hF : ∀ (i : Nat) (v : Value) (a : Nat), fs[i]? = some v → as[i]? = some a → ∃ f x n, v = .ref f ∧ (f, listOf (List.toArray x) n) ∈ TL ∧ IntsAre x (figs (bitsW a))) (hV : IntsAre wv (as.map fun a => wth (bitsW a)))
   (hm1 : m (Str.ofString "drawn") = some (.ref lD)) (hm2 : m (Str.ofString "worths") = some (.ref lV))
   (K : ∀ (lP lQ : Addr) (ps qs : List Value) (QL : Led) (tab : Led) (h' : Heap) (tk' : Nat) (m' : Str → Option Value), IntsAre ps (as.map fun a => pk (bitsW a)) → (∀ (i : Nat) (v : Value) (a : Nat), qs[i]? = some v → as[i]? = some a → ∃ q ta tb nq, v = .ref q ∧ (q, tupOf [.int (wth (bitsW a)) ta, .int (pu (wth (bitsW a))) tb] nq) ∈ QL) → qs.length = as.length →
     Tab 46 (Str.ofString "_digits2int.<locals>.inner") 68 4 tab → Fr g A h' m' → News g A h' ((lQ, lst qs) :: (QL ++ ((lP, lst ps) :: (TL ++ tab)))) → Apart tab ((lQ, lst qs) :: (QL ++ ((lP, lst ps) :: TL))) → Apart ((lQ, lst qs) :: (QL ++ [(lP, lst ps)])) TL → (∀ y, y ≠ Str.ofString "packed" → y ≠ Str.ofString "pairs" → m' y = m y) → m' (Str.ofString "packed") = some (.ref lP) → m' (Str.ofString "pairs") = some (.ref lQ) → Q .next { s with heap := h', toks := tk' }) : wpAny (model PySem.Challenge.rw_sw0064_01.row.prog w) (callerA.deeper (envOfC (Str.ofString "law") lscope A fa cd)) (execs [s13, s14] (envOfC (Str.ofString "law") lscope A fa cd)) Q EV s := by
  change some _ = _ at b13
  replace b13 := Option.some.inj b13
  subst b13
  change some _ = _ at b14
  replace b14 := Option.some.inj b14
  subst b14
  change Scope.mk _ _ _ _ _ = _ at hsc
  cases hsc
  revert X
  k_fill
  intro X
  have hsz : fs.toArray.size ≤ sizeLine := by rw [List.size_toArray, hl]; exact Nat.le_trans hl9 (by decide)
  have hsw : wv.toArray.size ≤ sizeLine := by rw [List.size_toArray, IntsAre.length hV, List.length_map]; exact Nat.le_trans hl9 (by decide)
  have mD0 : (lD, listOf (List.toArray fs) nD) ∈ TL ++ [(46, tabObj #[])] := List.mem_append_left _ mD
  k_steps
  refine gRest_indQ (fun i ys nw => ∃ tab, nw = TL ++ tab ∧ IntsAre ys ((as.take i).map fun a => pk (bitsW a)) ∧ Tab 46 (Str.ofString "_digits2int.<locals>.inner") 68 4 tab ∧ Apart tab TL) ⟨_, rfl, .nil, .inl rfl, hat0⟩ ?_ ?_
  · (refine postI ?_; intro G9 hG9; rintro i ys nw hi hP9; refine ex1 hP9 ?_; clear hP9; intro tab hP9; refine an4 hP9 ?_; clear hP9; rintro rfl hy htab hat; refine hG9 _ _ _ ?_; clear hG9 G9; refine postB ?_; intro G9 hG9; rintro CC oC9 D9 m₂ h9 tk9 its E' hP9; refine ex1 hP9 ?_; clear hP9; intro v hP9; refine an2 hP9 ?_; clear hP9; intro hv9 hmv; refine hG9 _ _ _ _ _ _ _ _ ?_; clear hG9 G9; rintro hNs hits F₁ N₁ ap Qy Qs cQ cS)
    (refine ex1 (map1 hits) ?_; intro oI hP9; revert hP9; rintro rfl)
    simp only [List.cons_append, List.nil_append] at N₁
    have hv8 : fs[i]? = some v := by rw [← hv9, List.getElem?_toArray]
    have hi8 : i < as.length := by rw [← hl]; exact hi
    (refine ex1 (show ∃ a, as[i]? = some a from ⟨_, List.getElem?_eq_getElem hi8⟩) ?_; intro a hP9; revert hP9; intro ha)
    (refine ex3 (hF i v _ hv8 ha) ?_; intro f x n hP9; refine an3 hP9 ?_; clear hP9; rintro rfl hmf hx)
    show wpAny _ _ _ _ _ _
    have mk9 := mark9
    k_steps
    refine hold_in ?_
    rename_i I9 mk9 xx9
    refine' Spec.use (rest := [(I9, oI), (CC, oC9), (D9, lst ys)] ++ TL) (d2i_spec w 8 8 f x (figs (bitsW a)) n _ rfl (by decide) hx (by rw [figs_len]; exact (show (7 : Nat) ≤ 25 by decide)) (figs_28 _) tab htab) ?kB ?kF ?kX ?kN ?kap ?kro ?kdr ?kT ?kd ?ku ?_
    case kB => k_asm
    case kF => k_asm
    case kX => k_asm
    case kT => k_asm
    case kN => exact news_rot (F := [_, _, _]) N₁
    case kap => exact apart_two (apart_symm (apart_mono ap sub_refl (sub_appR sub_refl))) hat
    case kd => decide +kernel
    case ku => decide +kernel
    case kro => exact atAll_cons (N₁ _ (.tail _ (.tail _ (.tail _ (List.mem_append_left _ hmf))))).1 (atAll_nil _)
    case kdr => exact apart_symm (apart_mono hat sub_refl (sub_cons hmf sub_nil))
    (refine postG ?_; intro G9 hG9; rintro r5 new5 h5 tk5 hP9; refine an2 hP9 ?_; clear hP9; intro hQ1 htab5; refine ex1 hQ1 ?_; clear hQ1; intro t5 hP9; revert hP9; rintro rfl; refine hG9 _ _ _ _ ?_; clear hG9 G9; rintro F5 N5 ap5)
    try dsimp only
    k_steps
    exact cQ _ _ _ (TL ++ new5) F5 (news_tor (F := [_, _, _]) N5) (apart_two (apart_mono ap sub_refl (sub_appL sub_refl)) (apart_symm (apart_mono ap5 sub_refl (sub_appL sub_refl)))) (List.mem_append_left _ mD) ⟨new5, rfl, by rw [List.take_add_one, ha, List.map_append]; exact ints_snoc hy, htab5, apart_mono ap5 sub_refl (sub_appR sub_refl)⟩
  · (refine postE ?_; intro G9 hG9; rintro ys nw hP9; refine ex1 hP9 ?_; clear hP9; intro tab hP9; refine an4 hP9 ?_; clear hP9; rintro rfl hy htab hat; refine hG9 _ _ ?_; clear hG9 G9; rintro lP h9 tk9 F₁ N₁ ap)
    rw [take_all (by rw [List.size_toArray, hl]; exact Nat.le_refl _)] at hy
    have mV0 : (lV, listOf (List.toArray wv) nV) ∈ TL ++ tab := List.mem_append_left _ mV
    have hlP : Apart tab ((lP, lst ys) :: TL) := apart_newR (apart_mono ap sub_refl (sub_appR sub_refl)) sub_refl hat
    have hlP2 : Apart [(lP, lst ys)] TL := apart_mono ap sub_refl (sub_appL sub_refl)
    generalize hTP : (lP, lst ys) :: (TL ++ tab) = TP at *
    have mV1 : (lV, listOf (List.toArray wv) nV) ∈ TP := by rw [← hTP]; exact .tail _ mV0
    k_steps
    refine gRest_indQ (fun i zs nw => ∃ QL, nw = QL ++ TP ∧ zs.length = i ∧ Apart QL TP ∧ ∀ (i : Nat) (v : Value) (a : Nat), zs[i]? = some v → as[i]? = some a → ∃ q ta tb nq, v = .ref q ∧ (q, tupOf [.int (wth (bitsW a)) ta, .int (pu (wth (bitsW a))) tb] nq) ∈ QL) ⟨[], rfl, rfl, apart_nil _, fun _ _ _ h => by simp at h⟩ ?_ ?_
    · (refine postI ?_; intro G9 hG9; rintro i zs nw hi hP9; refine ex1 hP9 ?_; clear hP9; intro QL hP9; refine an4 hP9 ?_; clear hP9; rintro rfl hz hap hZ; refine hG9 _ _ _ ?_; clear hG9 G9; refine postB ?_; intro G9 hG9; rintro CC oC9 D8 m₂ h8 tk8 its E' hP9; refine ex1 hP9 ?_; clear hP9; intro v hP9; refine an2 hP9 ?_; clear hP9; intro hv9 hmv; refine hG9 _ _ _ _ _ _ _ _ ?_; clear hG9 G9; rintro hNs hits F₂ N₂ ap8 Qy Qs cQ cS)
      (refine ex1 (map1 hits) ?_; intro oI hP9; revert hP9; rintro rfl)
      simp only [List.cons_append, List.nil_append] at N₂
      (refine ex2 (ints_at hV hv9) ?_; intro n t hP9; refine an2 hP9 ?_; clear hP9; rintro rfl hn)
      rw [List.getElem?_map] at hn
      (refine ex1 (Option.map_eq_some_iff.mp hn) ?_; intro a hP9; refine an2 hP9 ?_; clear hP9; rintro ha rfl)
      have hwr := wth_40 a
      show wpAny _ _ _ _ _ _
      have mk9 := mark9
      k_steps
      refine hold_in ?_
      refine' Spec.use (rest := _) (pair_spec w (wth (bitsW a)) _ hwr) ?kB ?kF ?kX ?kN ?kap (atAll_nil _) ?kdr ?kT ?kd ?ku ?_
      case kB => k_asm
      case kF => k_asm
      case kX => k_asm
      case kT => k_asm
      case kN => exact N₂
      case kap => exact apart_nil _
      case kdr => exact apart_nil _
      case kd => decide +kernel
      case ku => decide +kernel
      (refine postG ?_; intro G9 hG9; rintro r5 new5 h5 tk5 hP9; refine ex5 hP9 ?_; clear hP9; intro tr5 t5 t6 nr5 uu hP9; refine an6 hP9 ?_; clear hP9; rintro rfl rfl hu0 hu1 hu2 hu3; refine hG9 _ _ _ _ ?_; clear hG9 G9; rintro F5 N5 ap5)
      rw [pu_of hwr hu0 hu1 hu2 hu3] at N5 ap5
      simp only [List.cons_append, List.nil_append] at N5
      try dsimp only
      k_steps
      refine cQ _ _ _ ((tr5, tupOf [.int (wth (bitsW a)) t5, .int (pu (wth (bitsW a))) t6] nr5) :: (QL ++ TP)) F5 (kst_newsOf N5 (by walk_at "m sub")) (apart_newR ap5 (by walk_at "m sub") ap8) (.tail _ (List.mem_append_right _ mV1)) ⟨_ :: QL, rfl, by rw [List.length_append, hz]; rfl, apart_newL ap5 (sub_skip (sub_skip (sub_skip (sub_appR sub_refl)))) hap, fun j v a' hv hja => ?_⟩
      rcases Nat.lt_trichotomy j zs.length with hj | hj | hj
      · rw [List.getElem?_append_left hj] at hv
        (refine ex4 (hZ j v a' hv hja) ?_; intro f x n n' hP9; refine an2 hP9 ?_; clear hP9; intro e1 e2)
        exact ⟨f, x, n, n', e1, .tail _ e2⟩
      · rw [hj, List.getElem?_append_right (Nat.le_refl _), Nat.sub_self] at hv
        cases hv
        rw [hj, hz, ha] at hja
        cases hja
        exact ⟨tr5, t5, t6, nr5, rfl, .head _⟩
      · rw [List.getElem?_eq_none (by rw [List.length_append]; exact hj)] at hv; cases hv
    · (refine postE ?_; intro G9 hG9; rintro zs nw hP9; refine ex1 hP9 ?_; clear hP9; intro QL hP9; refine an4 hP9 ?_; clear hP9; rintro rfl hz hap hZ; refine hG9 _ _ ?_; clear hG9 G9; rintro lQ h8 tk8 F8 N8 ap8)
      k_steps
      (rename News _ _ _ _ => N6)
      (rename Fr _ _ _ _ => F6)
      subst hTP
      refine K lP lQ ys zs QL tab _ _ _ hy hZ (by rw [hz, List.size_toArray, IntsAre.length hV, List.length_map]) htab F6 N6 ?_ ?_ (fun y h1 h2 => (if_neg h2).trans (if_neg h1)) rfl rfl
      · exact apart_newR (apart_mono ap8 sub_refl (sub_appR (sub_skip (sub_appR sub_refl)))) sub_refl (apart_two (apart_symm (apart_mono hap sub_refl (sub_skip (sub_appR sub_refl)))) hlP)
      · exact apart_newL ap8 (sub_appR (sub_skip (sub_appL sub_refl))) (apart_app (apart_mono hap sub_refl (sub_skip (sub_appL sub_refl))) hlP2)
end
theorem wOff_S_lj : True := by
  w_top off
  trivial
section
set_option maxHeartbeats 4000000 in
theorem lj {s15 s16 s17 : Stmt} (b15 : lawBody[15]? = some s15) (b16 : lawBody[16]? = some s16) (b17 : lawBody[17]? = some s17) (w : World) {lscope : Scope} {A fa : Addr} {cd : Value} (hsc : lawScope = lscope) {p : Program} {loose : List Str} {mean : ExcName → Option Value} {mg mb : Str → Option Value} {g : Heap} (B : Below callerA g [] g) (X : (Mine.hd.heap_39 w.params).In g) (T : Top p loose mean mg mb g) {EV : Value → Shared → Prop} {Q : Flow → Shared → Prop} {s : Shared} {m : Str → Option Value} (F : Fr g A s.heap m) {o2 : Obj} {lT lP lQ q0 q1 q2 : Addr} {vsT : List Value} {nT nq0 nq1 : Nat} {p0 p1 p2 ta0 tb0 ta1 tb1 : Tok} {a0 a1' a2' : Nat} {tabI tabD TL : Led} {Dv : Nat}
   (mq0 : (q0, tupOf [.int (wth (bitsW a0)) ta0, .int (pu (wth (bitsW a0))) tb0] nq0) ∈ TL) (mq1 : (q1, tupOf [.int (wth (bitsW a1')) ta1, .int (pu (wth (bitsW a1'))) tb1] nq1) ∈ TL) (mT : (lT, listOf (List.toArray vsT) nT) ∈ TL) (m2 : (A + 1 + 1, o2) ∈ TL)
   (N : News g A s.heap (((lP, lst [.int (pk (bitsW a0)) p0, .int (pk (bitsW a1')) p1, .int (pk (bitsW a2')) p2]) :: (lQ, lst [.ref q0, .ref q1, .ref q2]) :: TL) ++ (tabI ++ tabD))) (hI : Tab 39 (Str.ofString "_int2digits.<locals>.inner") 53 4 tabI) (hD : Tab 46 (Str.ofString "_digits2int.<locals>.inner") 68 4 tabD) (hID : Apart tabI tabD) (hIE : Apart tabI ((lP, lst [.int (pk (bitsW a0)) p0, .int (pk (bitsW a1')) p1, .int (pk (bitsW a2')) p2]) :: (lQ, lst [.ref q0, .ref q1, .ref q2]) :: TL)) (hDE : Apart tabD ((lP, lst [.int (pk (bitsW a0)) p0, .int (pk (bitsW a1')) p1, .int (pk (bitsW a2')) p2]) :: (lQ, lst [.ref q0, .ref q1, .ref q2]) :: TL)) (hT : IntsAre vsT stepsL) (d2 : o2.data = .cell (some (.ref lT)))
   (hm1 : m (Str.ofString "packed") = some (.ref lP)) (hm2 : m (Str.ofString "pairs") = some (.ref lQ))
   (hD0 : ∀ ns : List Int, DigsOf 8 ((pk (bitsW a0)).toNat * (pk (bitsW a1')).toNat) ns → ns.length ≤ 14 → (worthL stepsL 2 0 ns).sum = (Dv : Int)) (hDb : Dv < 3000)
   (hD1 : wth (bitsW a0) * wth (bitsW a1') + wth (bitsW a0) * pu (wth (bitsW a1')) + pu (wth (bitsW a0)) * wth (bitsW a1') = (Dv : Int)) (hD2 : wth (bitsW a0) * wth (bitsW a1') + pu (wth (bitsW a0)) * pu (wth (bitsW a1')) = (((Dv + 1) * 196418 / 317811 : Nat) : Int))
   (K : ∀ (lU : Addr) (t7 t8 t6 : Tok) (nU : Nat) (tabI2 tabD2 : Led) (h' : Heap) (tk' : Nat) (m' : Str → Option Value), Tab 39 (Str.ofString "_int2digits.<locals>.inner") 53 4 tabI2 → Tab 46 (Str.ofString "_digits2int.<locals>.inner") 68 4 tabD2 → Apart tabI2 tabD2 → Fr g A h' m' →
      News g A h' (((lU, tupOf [.int (Dv : Int) t7, .int (((Dv + 1) * 196418 / 317811 : Nat) : Int) t8] nU) :: ((lP, lst [.int (pk (bitsW a0)) p0, .int (pk (bitsW a1')) p1, .int (pk (bitsW a2')) p2]) :: (lQ, lst [.ref q0, .ref q1, .ref q2]) :: TL)) ++ (tabI2 ++ tabD2)) → Apart (tabI2 ++ tabD2) ((lU, tupOf [.int (Dv : Int) t7, .int (((Dv + 1) * 196418 / 317811 : Nat) : Int) t8] nU) :: ((lP, lst [.int (pk (bitsW a0)) p0, .int (pk (bitsW a1')) p1, .int (pk (bitsW a2')) p2]) :: (lQ, lst [.ref q0, .ref q1, .ref q2]) :: TL)) →
      (∀ y, y ≠ Str.ofString "double" → y ≠ Str.ofString "due" → m' y = m y) → m' (Str.ofString "double") = some (.int (Dv : Int) t6) → m' (Str.ofString "due") = some (.ref lU) → Apart [(lU, tupOf [.int (Dv : Int) t7, .int (((Dv + 1) * 196418 / 317811 : Nat) : Int) t8] nU)] ((lP, lst [.int (pk (bitsW a0)) p0, .int (pk (bitsW a1')) p1, .int (pk (bitsW a2')) p2]) :: (lQ, lst [.ref q0, .ref q1, .ref q2]) :: TL) → Q .next { s with heap := h', toks := tk' }) : wpAny (model PySem.Challenge.rw_sw0064_01.row.prog w) (callerA.deeper (envOfC (Str.ofString "law") lscope A fa cd)) (execs [s15, s16, s17] (envOfC (Str.ofString "law") lscope A fa cd)) Q EV s := by
  change some _ = _ at b15
  replace b15 := Option.some.inj b15
  subst b15
  change some _ = _ at b16
  replace b16 := Option.some.inj b16
  subst b16
  change some _ = _ at b17
  replace b17 := Option.some.inj b17
  subst b17
  change Scope.mk _ _ _ _ _ = _ at hsc
  cases hsc
  revert X
  k_fill
  intro X
  have hp0 := pk_rng a0
  have hp1 := pk_rng a1'
  have hxi : pk (bitsW a0) * pk (bitsW a1') = (((pk (bitsW a0)).toNat * (pk (bitsW a1')).toNat : Nat) : Int) := by
    rw [Int.natCast_mul, Int.toNat_of_nonneg hp0.1, Int.toNat_of_nonneg hp1.1]
  have hxb : (pk (bitsW a0)).toNat * (pk (bitsW a1')).toNat < 2 ^ (14 * 8) := by
    have h0 : (pk (bitsW a0)).toNat < 2 ^ 56 := by have := hp0.2; omega
    have h1 : (pk (bitsW a1')).toNat < 2 ^ 56 := by have := hp1.2; omega
    exact Nat.lt_of_lt_of_le (Nat.mul_lt_mul'' h0 h1) (by decide)
  have mk9 := mark9
  try simp only [List.cons_append, List.nil_append] at N
  k_steps
  show wpAny _ _ (binaryOp .Mult (.int (pk (bitsW a0)) _) (.int (pk (bitsW a1')) _)) _ _ _
  k_steps
  refine hold_in ?_
  refine' Spec.use (rest := ((lP, lst [.int (pk (bitsW a0)) p0, .int (pk (bitsW a1')) p1, .int (pk (bitsW a2')) p2]) :: (lQ, lst [.ref q0, .ref q1, .ref q2]) :: TL) ++ tabD) (i2d_spec w _ 8 14 _ _ _ _ hxi rfl (by decide) hxb (by decide) tabI hI) ?kB ?kF ?kX ?kN ?kap (atAll_nil _) ?kdr ?kT ?kd ?ku ?_
  case kB => k_asm
  case kF => k_asm
  case kX => k_asm
  case kT => k_asm
  case kN => ((rename News _ _ _ _ => N9); exact kst_newsOf N9 (by walk_at "m subT"))
  case kap => exact apart_symm (apart_app (apart_symm hIE) (apart_symm hID))
  case kd => decide +kernel
  case ku => decide +kernel
  case kdr => exact apart_nil _
  (refine postG ?_; intro G9 hG9; rintro r5 new5 h5 tk5 hP9; refine ex5 hP9 ?_; clear hP9; intro lG vsG nsG nG tabI1 hP9; refine an6 hP9 ?_; clear hP9; rintro rfl rfl hI1 hvG hlG hdG; refine hG9 _ _ _ _ ?_; clear hG9 G9; rintro F5 N5 ap5)
  try simp only [List.cons_append, List.nil_append] at N5
  have hDs := hD0 nsG hdG hlG
  try dsimp only
  k_steps
  refine hold_in ?_
  have apIE : Apart tabI1 (((lP, lst [.int (pk (bitsW a0)) p0, .int (pk (bitsW a1')) p1, .int (pk (bitsW a2')) p2]) :: (lQ, lst [.ref q0, .ref q1, .ref q2]) :: TL) ++ tabD) := fun p hp => ap5 p (.tail _ hp)
  have hlG : ∀ d ∈ nsG, 0 ≤ d ∧ d < 2 ^ 20 := fun d hd => by have := digs_rng hdG d hd; omega
  refine' Spec.use (rest := ((lG, listOf (List.toArray vsG) nG) :: ((lP, lst [.int (pk (bitsW a0)) p0, .int (pk (bitsW a1')) p1, .int (pk (bitsW a2')) p2]) :: (lQ, lst [.ref q0, .ref q1, .ref q2]) :: TL)) ++ (tabI1 ++ tabD)) (worth_spec w lT lG stepsL nsG vsT vsG nT nG 2 _ hT hvG rfl (by omega) hlG) ?kB ?kF ?kX ?kN ?kap ?kro ?kdr ?kT ?kd ?ku ?_
  case kB => k_asm
  case kF => k_asm
  case kX => k_asm
  case kT => k_asm
  case kN => ((rename News _ _ _ _ => N9); exact kst_newsOf N9 (by walk_at "m subT"))
  case kap => exact apart_nil _
  case kd => decide +kernel
  case ku => decide +kernel
  case kro => exact fun q hq => (N5 q ((show ∀ q ∈ [(lT, listOf (List.toArray vsT) nT), (lG, listOf (List.toArray vsG) nG)], q ∈ _ by walk_at "m subT") q hq)).1
  case kdr => exact apart_symm (apart_nil _)
  (refine postG ?_; intro G9 hG9; rintro r6 new6 h6 tk6 hP9; refine an2 hP9 ?_; clear hP9; rintro rfl hP9; refine ex1 hP9 ?_; clear hP9; intro t6 hP9; revert hP9; intro hr6; refine hG9 _ _ _ _ ?_; clear hG9 G9; rintro F6 N6 ap6)
  rw [hDs] at hr6
  subst hr6
  try simp only [List.cons_append, List.nil_append] at N6
  try dsimp only
  k_steps
  refine hold_in ?_
  (rename News _ _ _ _ => N62)
  have hw0 := wth_40 a0
  have hw1 := wth_40 a1'
  have hu0 := wth_pu a0
  have hu1 := wth_pu a1'
  show wpAny _ _ (call (.ref 174) [.ref q0, .ref q1]) _ _ _
  refine' Spec.use (rest := ((lP, lst [.int (pk (bitsW a0)) p0, .int (pk (bitsW a1')) p1, .int (pk (bitsW a2')) p2]) :: (lQ, lst [.ref q0, .ref q1, .ref q2]) :: TL) ++ (tabI1 ++ tabD)) (times_spec w q0 q1 nq0 nq1 (wth (bitsW a0)) (pu (wth (bitsW a0))) (wth (bitsW a1')) (pu (wth (bitsW a1'))) ta0 tb0 ta1 tb1 (by omega) (by omega) (by omega) (by omega)) ?kB ?kF ?kX ?kN ?kap ?kro ?kdr ?kT ?kd ?ku ?_
  case kB => k_asm
  case kF => k_asm
  case kX => k_asm
  case kT => k_asm
  case kN => ((rename News _ _ _ _ => N9); exact kst_newsOf N9 (by walk_at "m subT"))
  case kap => exact apart_nil _
  case kd => decide +kernel
  case ku => decide +kernel
  case kro => exact fun q hq => (N62 q ((show ∀ q ∈ [(q0, tupOf [.int (wth (bitsW a0)) ta0, .int (pu (wth (bitsW a0))) tb0] nq0), (q1, tupOf [.int (wth (bitsW a1')) ta1, .int (pu (wth (bitsW a1'))) tb1] nq1)], q ∈ _ by walk_at "m subT") q hq)).1
  case kdr => exact apart_symm (apart_nil _)
  (refine postG ?_; intro G9 hG9; rintro r7 new7 h7 tk7 hP9; refine ex4 hP9 ?_; clear hP9; intro lU t7 t8 nU hP9; refine an2 hP9 ?_; clear hP9; rintro rfl rfl; refine hG9 _ _ _ _ ?_; clear hG9 G9; rintro F7 N7 ap7)
  rw [hD1, hD2] at N7 ap7
  try simp only [List.cons_append, List.nil_append] at N7
  try dsimp only
  k_steps
  refine hold_in ?_
  (rename News _ _ _ _ => N72)
  have apU : ∀ tb : Led, (∀ p ∈ tb, p ∈ tabI1 ++ tabD) → Apart tb [(lU, tupOf [.int (Dv : Int) t7, .int (((Dv + 1) * 196418 / 317811 : Nat) : Int) t8] nU)] := fun tb hs p hp q hq => Ne.symm (ap7 q hq p (List.mem_append_right _ (hs p hp)))
  have apI1E : Apart tabI1 ((lP, lst [.int (pk (bitsW a0)) p0, .int (pk (bitsW a1')) p1, .int (pk (bitsW a2')) p2]) :: (lQ, lst [.ref q0, .ref q1, .ref q2]) :: TL) := fun p hp q hq => apIE p hp q (List.mem_append_left _ hq)
  have apI1D : Apart tabI1 tabD := fun p hp q hq => apIE p hp q (List.mem_append_right _ hq)
  have apF : Apart (tabI1 ++ tabD) ([(lU, tupOf [.int (Dv : Int) t7, .int (((Dv + 1) * 196418 / 317811 : Nat) : Int) t8] nU)] ++ ((lP, lst [.int (pk (bitsW a0)) p0, .int (pk (bitsW a1')) p1, .int (pk (bitsW a2')) p2]) :: (lQ, lst [.ref q0, .ref q1, .ref q2]) :: TL)) :=
    apart_symm (apart_app (apart_symm (apU _ fun p hp => hp)) (apart_symm (apart_app apI1E hDE)))
  refine' Spec.use (rest := [(lU, tupOf [.int (Dv : Int) t7, .int (((Dv + 1) * 196418 / 317811 : Nat) : Int) t8] nU)] ++ ((lP, lst [.int (pk (bitsW a0)) p0, .int (pk (bitsW a1')) p1, .int (pk (bitsW a2')) p2]) :: (lQ, lst [.ref q0, .ref q1, .ref q2]) :: TL)) (quo_spec w Dv _ lT vsT nT _ rfl (by omega) hT tabI1 tabD hI1 hD apI1D) ?kB ?kF ?kX ?kN ?kap ?kro ?kdr ?kT ?kd ?ku ?_
  case kB => k_asm
  case kF => k_asm
  case kX => k_asm
  case kT => k_asm
  case kN => ((rename News _ _ _ _ => N9); exact kst_newsOf N9 (by walk_at "m subT"))
  case kap => exact apF
  case kd => decide +kernel
  case ku => decide +kernel
  case kro => exact fun q hq => (N72 q ((show ∀ q ∈ [(lT, listOf (List.toArray vsT) nT)], q ∈ _ by walk_at "m subT") q hq)).1
  case kdr => exact fun p hp q hq => (apart_symm apF) p ((show ∀ q ∈ [(lT, listOf (List.toArray vsT) nT)], q ∈ _ by walk_at "m subT") p hp) q hq
  (refine postG ?_; intro G9 hG9; rintro r8 new8 h8 tk8 hP9; refine ex6 hP9 ?_; clear hP9; intro lY t9 t10 nY tabI2 tabD2 hP9; refine an5 hP9 ?_; clear hP9; rintro rfl rfl hI2 hD2' hID2; refine hG9 _ _ _ _ ?_; clear hG9 G9; rintro F8 N8 ap8)
  simp only [List.cons_append, List.nil_append, List.append_assoc] at N8
  try dsimp only
  k_steps
  refine hold_in ?_
  (rename News _ _ _ _ => N82)
  refine ne_dataH (reads_tuple_at (N82.get (a := lY) (by infer_instance)) rfl rfl (ReadsAll.cons (Reads.int _ _) (ReadsAll.cons (Reads.int _ _) ReadsAll.nil))) (reads_tuple_at (N82.get (a := lU) (by infer_instance)) rfl rfl (ReadsAll.cons (Reads.int _ _) (ReadsAll.cons (Reads.int _ _) ReadsAll.nil))) rfl rfl (by rw [units_deeper, units_caller]; decide +kernel) ?_
  simp only [PyData.eqv, PyData.eqvAll, beq_self_eq_true, decide_true, Bool.and_true, Bool.true_and, Bool.not_true]
  k_steps
  (rename News _ _ _ _ => N6)
  (rename Fr _ _ _ _ => F6)
  exact K lU t7 t8 t6 nU tabI2 tabD2 _ _ _ hI2 hD2' hID2 F6 (kst_newsOf N6 (by walk_at "m subT")) (fun p hp q hq => ap8 p (.tail _ hp) q hq) (fun y h1 h2 => (if_neg h2).trans (if_neg h1)) rfl rfl (apart_mono ap7 sub_refl (sub_appL sub_refl))
end
theorem wOff_S_lk1 : True := by
  w_top off
  trivial
section
local macro_rules | `(tactic| walk_at "storeName") => `(tactic| (k_here; k_dflt (refine' storeX_C ?F ?N ?c ?U ?d ?_ ?a ?b; (case a => rfl); (case b => rfl); (case F => k_asm); (case N => k_asm); (case c => rfl); (case U => exact UpdF.head (by assumption)); (case d => k_asm); k_whole; intro h' o' F' N' d'; (try dsimp only at N'))))
set_option maxHeartbeats 4000000 in
theorem lk1 {s18 : Stmt} (b18 : lawBody[18]? = some s18) (w : World) {lscope : Scope} {A fa : Addr} {cd : Value} (hsc : lawScope = lscope) {p : Program} {loose : List Str} {mean : ExcName → Option Value} {mg mb : Str → Option Value} {g : Heap} (B : Below callerA g [] g) (X : (Mine.hd.heap_39 w.params).In g) (T : Top p loose mean mg mb g) {EV : Value → Shared → Prop} {Q : Flow → Shared → Prop} {s : Shared} {m : Str → Option Value} (F : Fr g A s.heap m) {o2 o6 : Obj} {lT : Addr} {vsT : List Value} {nT : Nat} {t6 : Tok} {Dv : Nat} {TL : Led}
   (N : News g A s.heap ((A + 1 + 1 + 1 + 1 + 1 + 1, o6) :: TL)) (mT : (lT, listOf (List.toArray vsT) nT) ∈ TL) (m2 : (A + 1 + 1, o2) ∈ TL) (hT : IntsAre vsT stepsL) (d2 : o2.data = .cell (some (.ref lT))) (d6 : o6.data = .cell none)
   (hm : m (Str.ofString "double") = some (.int (Dv : Int) t6)) (hDb : Dv < 3000) (hA : @LT.lt Nat _ 116 A) (hne : ∀ p ∈ TL, p.1 ≠ (A + 1 + 1 + 1 + 1 + 1 + 1))
   (K : ∀ (lZ : Addr) (us : List Value) (nZ : Nat) (o6 : Obj) (h' : Heap) (tk' : Nat), IntsAre us (greedy Dv (Dv : Int) []) → o6.data = .cell (some (.ref lZ)) → Fr g A h' m → News g A h' ((A + 1 + 1 + 1 + 1 + 1 + 1, o6) :: ((lZ, listOf (List.toArray us) nZ) :: TL)) → Apart [(lZ, listOf (List.toArray us) nZ)] TL → Q .next { s with heap := h', toks := tk' }) : wpAny (model PySem.Challenge.rw_sw0064_01.row.prog w) (callerA.deeper (envOfC (Str.ofString "law") lscope A fa cd)) (execs [s18] (envOfC (Str.ofString "law") lscope A fa cd)) Q EV s := by
  change some _ = _ at b18
  replace b18 := Option.some.inj b18
  subst b18
  change Scope.mk _ _ _ _ _ = _ at hsc
  cases hsc
  revert X
  k_fill
  intro X
  have mk9 := mark9
  k_steps
  refine hold_in ?_
  refine' Spec.use (rest := (A + 1 + 1 + 1 + 1 + 1 + 1, o6) :: TL) (plc_spec w lT vsT nT (Dv : Int) _ hT ⟨by omega, by omega⟩) ?kB ?kF ?kX ?kN ?kap ?kro ?kdr ?kT ?kd ?ku ?_
  case kB => k_asm
  case kF => k_asm
  case kX => k_asm
  case kT => k_asm
  case kN => exact N
  case kap => exact apart_nil _
  case kd => decide +kernel
  case ku => decide +kernel
  case kro => exact atAll_cons (N _ (.tail _ mT)).1 (atAll_nil _)
  case kdr => exact apart_symm (apart_nil _)
  (refine postG ?_; intro G9 hG9; rintro r5 new5 h5 tk5 hP9; refine ex3 hP9 ?_; clear hP9; intro lZ us nZ hP9; refine an3 hP9 ?_; clear hP9; rintro rfl rfl hus; refine hG9 _ _ _ _ ?_; clear hG9 G9; rintro F5 N5 ap5)
  rw [Int.toNat_natCast] at hus
  have hZ : @Ne Nat lZ (A + 1 + 1 + 1 + 1 + 1 + 1) := ap5 (lZ, _) (.head _) (A + 1 + 1 + 1 + 1 + 1 + 1, o6) (.head _)
  have N6 : News g A h5 ((A + 1 + 1 + 1 + 1 + 1 + 1, o6) :: ((lZ, listOf (List.toArray us) nZ) :: TL)) := kst_newsOf N5 (by walk_at "m sub")
  have hU : ∀ p ∈ ((lZ, listOf (List.toArray us) nZ) :: TL : Led), p.1 ≠ (A + 1 + 1 + 1 + 1 + 1 + 1) := List.forall_mem_cons.mpr ⟨hZ, hne⟩
  clear N5 N
  try dsimp only
  k_steps
  (rename News _ _ _ _ => N7)
  (rename Fr _ _ _ _ => F7)
  exact K lZ us nZ _ _ _ hus (by assumption) F7 N7 (apart_mono ap5 sub_refl (sub_skip sub_refl))
end
theorem wOff_S_lk2 : True := by
  w_top off
  trivial
section
local macro_rules | `(tactic| walk_at "subscriptTail Name Constant ref int") => `(tactic| (k_here; (with_reducible rename Mark9 => mk9); k_dflt (refine' item_list ?l ?a ?b ?c ?_; (case l => exact News.isList (by k_asm) (by infer_instance)); (case a => decide); (case b => decide); (case c => rfl))))
local macro_rules | `(tactic| walk_at "call builtin:list.count") => `(tactic| (k_here; refine hold_out ?_))
local macro_rules | `(tactic| walk_at "compareOp Eq ref ref") => `(tactic| (k_here; refine hold_out ?_))
set_option maxHeartbeats 4000000 in
theorem lk2 {s19 s20 s21 s22 : Stmt} (b19 : lawBody[19]? = some s19) (b20 : lawBody[20]? = some s20) (b21 : lawBody[21]? = some s21) (b22 : lawBody[22]? = some s22) (w : World) {lscope : Scope} {A fa : Addr} {cd : Value} (hsc : lawScope = lscope) {p : Program} {loose : List Str} {mean : ExcName → Option Value} {mg mb : Str → Option Value} {g : Heap} (B : Below callerA g [] g) (X : (Mine.hd.heap_39 w.params).In g) (T : Top p loose mean mg mb g) {EV : Value → Shared → Prop} {Q : Flow → Shared → Prop} {s : Shared} {m : Str → Option Value} (F : Fr g A s.heap m) {o2 o6 : Obj} {lT lR g0 g1 g2 lP lQ q0 q1 q2 : Addr} {vsT y2 : List Value} {nT nR m2 nq2 : Nat} {p0 p1 p2 ta2 tb2 : Tok} {a0 a1' a2' : Nat} {c : Addr} {tabI tabD TL : Led} {Dv : Nat} {lU lZ : Addr} {t7 t8 : Tok} {nU nZ : Nat} {us : List Value}
   (h6 : (A + 1 + 1 + 1 + 1 + 1 + 1, o6) ∈ TL) (hU9 : (lU, tupOf [.int (Dv : Int) t7, .int (((Dv + 1) * 196418 / 317811 : Nat) : Int) t8] nU) ∈ TL) (hq9 : (q2, tupOf [.int (wth (bitsW a2')) ta2, .int (pu (wth (bitsW a2'))) tb2] nq2) ∈ TL) (hg9 : (g2, listOf (List.toArray y2) m2) ∈ TL) (hT9 : (lT, listOf (List.toArray vsT) nT) ∈ TL) (h29 : (A + 1 + 1, o2) ∈ TL) (h116 : (116, tabObj #[rawInt 176, rawInt 4, .ref c]) ∈ TL)
   (N : News g A s.heap (((lP, lst [.int (pk (bitsW a0)) p0, .int (pk (bitsW a1')) p1, .int (pk (bitsW a2')) p2]) :: (lQ, lst [.ref q0, .ref q1, .ref q2]) :: (lR, listOf #[.ref g0, .ref g1, .ref g2] nR) :: (lZ, listOf (List.toArray us) nZ) :: TL) ++ (tabI ++ tabD))) (hE : Apart (tabI ++ tabD) ((lP, lst [.int (pk (bitsW a0)) p0, .int (pk (bitsW a1')) p1, .int (pk (bitsW a2')) p2]) :: (lQ, lst [.ref q0, .ref q1, .ref q2]) :: (lR, listOf #[.ref g0, .ref g1, .ref g2] nR) :: (lZ, listOf (List.toArray us) nZ) :: TL)) (hI : Tab 39 (Str.ofString "_int2digits.<locals>.inner") 53 4 tabI) (hD : Tab 46 (Str.ofString "_digits2int.<locals>.inner") 68 4 tabD) (hID : Apart tabI tabD) (hT : IntsAre vsT stepsL) (d2 : o2.data = .cell (some (.ref lT))) (d6 : o6.data = .cell (some (.ref lZ))) (hus : IntsAre us (greedy Dv (Dv : Int) [])) (hy2 : IntsAre y2 (figs (settle (bitsW a2'))))
   (hm1 : m (Str.ofString "packed") = some (.ref lP)) (hm2 : m (Str.ofString "pairs") = some (.ref lQ)) (hm3 : m (Str.ofString "settled") = some (.ref lR)) (hm4 : m (Str.ofString "due") = some (.ref lU))
   {Tv : Nat} (hx1 : dv 8 (cntZ (greedy Dv (Dv : Int) []) 16) * dv 8 (figs (settle (bitsW a2'))) = ((((dv 8 (cntZ (greedy Dv (Dv : Int) []) 16)).toNat * (pk (settle (bitsW a2'))).toNat) : Nat) : Int)) (hx1b : ((dv 8 (cntZ (greedy Dv (Dv : Int) []) 16)).toNat * (pk (settle (bitsW a2'))).toNat) < 2 ^ (23 * 8)) (hT1 : ∀ ns : List Int, DigsOf 8 ((dv 8 (cntZ (greedy Dv (Dv : Int) []) 16)).toNat * (pk (settle (bitsW a2'))).toNat) ns → ns.length ≤ 23 → (worthL stepsL 2 0 ns).sum = (Tv : Int))
   (hT2 : ∀ ns : List Int, DigsOf 8 ((pk (bitsW a0)).toNat * (pk (bitsW a1')).toNat * (pk (bitsW a2')).toNat) ns → ns.length ≤ 21 → (worthL stepsL 4 0 ns).sum = (Tv : Int))
   (hDb : Dv < 3000) (hTb : Tv < 1000000) (hR1 : (Dv : Int) * wth (bitsW a2') + (Dv : Int) * pu (wth (bitsW a2')) + (((Dv + 1) * 196418 / 317811 : Nat) : Int) * wth (bitsW a2') = (Tv : Int)) (hR2 : (Dv : Int) * wth (bitsW a2') + (((Dv + 1) * 196418 / 317811 : Nat) : Int) * pu (wth (bitsW a2')) = (((Tv + 1) * 196418 / 317811 : Nat) : Int))
   (hZ01 : ∀ d ∈ cntZ (greedy Dv (Dv : Int) []) 16, 0 ≤ d ∧ d < 2)
   (K : ∀ (h' : Heap) (tk' : Nat) (m' : Str → Option Value), Fr g A h' m' → GrownAll [(120, 116), (50, 46), (43, 39)] h' → Q (.ret (.bool true)) { s with heap := h', toks := tk' }) : wpAny (model PySem.Challenge.rw_sw0064_01.row.prog w) (callerA.deeper (envOfC (Str.ofString "law") lscope A fa cd)) (execs [s19, s20, s21, s22] (envOfC (Str.ofString "law") lscope A fa cd)) Q EV s := by
  change some _ = _ at b19
  replace b19 := Option.some.inj b19
  subst b19
  change some _ = _ at b20
  replace b20 := Option.some.inj b20
  subst b20
  change some _ = _ at b21
  replace b21 := Option.some.inj b21
  subst b21
  change some _ = _ at b22
  replace b22 := Option.some.inj b22
  subst b22
  change Scope.mk _ _ _ _ _ = _ at hsc
  cases hsc
  revert X
  k_fill
  intro X
  replace hx1 := fun (_ : True) => hx1
  have mk9 := mark9
  have hps : 0 ≤ dv 8 (figs (settle (bitsW a2'))) ∧ dv 8 (figs (settle (bitsW a2'))) < 2 ^ 56 := pk_rng0 _ (mem_all7 (settle_len a2'))
  have hmok : IntMulOk (dv 8 (cntZ (greedy Dv (Dv : Int) []) 16)) (dv 8 (figs (settle (bitsW a2')))) := IntMulOk.of_right (intBits_le_64 (by omega) (by omega))
  clear hps
  have hp0 := pk_rng a0
  have hp1 := pk_rng a1'
  have hp2 := pk_rng a2'
  have hm01 : IntMulOk (pk (bitsW a0)) (pk (bitsW a1')) := IntMulOk.of_right (intBits_le_64 (by omega) (by omega))
  have hm012 : IntMulOk (pk (bitsW a0) * pk (bitsW a1')) (pk (bitsW a2')) := IntMulOk.of_right (intBits_le_64 (by omega) (by omega))
  have hx2 : pk (bitsW a0) * pk (bitsW a1') * pk (bitsW a2') = (((pk (bitsW a0)).toNat * (pk (bitsW a1')).toNat * (pk (bitsW a2')).toNat : Nat) : Int) := by
    rw [Int.natCast_mul, Int.natCast_mul, Int.toNat_of_nonneg hp0.1, Int.toNat_of_nonneg hp1.1, Int.toNat_of_nonneg hp2.1]
  have hx2b : (pk (bitsW a0)).toNat * (pk (bitsW a1')).toNat * (pk (bitsW a2')).toNat < 2 ^ (21 * 8) := by
    have h0 : (pk (bitsW a0)).toNat < 2 ^ 56 := by have := hp0.2; omega
    have h1 : (pk (bitsW a1')).toNat < 2 ^ 56 := by have := hp1.2; omega
    have h2 : (pk (bitsW a2')).toNat < 2 ^ 56 := by have := hp2.2; omega
    exact Nat.lt_of_lt_of_le (Nat.mul_lt_mul'' (Nat.mul_lt_mul'' h0 h1) h2) (by decide)
  clear hp0 hp1 hp2
  simp only [List.cons_append, List.nil_append] at N
  k_steps
  refine gRest_ind (fun i ys nw => nw = ((lP, lst [.int (pk (bitsW a0)) p0, .int (pk (bitsW a1')) p1, .int (pk (bitsW a2')) p2]) :: (lQ, lst [.ref q0, .ref q1, .ref q2]) :: (lR, listOf #[.ref g0, .ref g1, .ref g2] nR) :: (lZ, listOf (List.toArray us) nZ) :: TL) ++ (tabI ++ tabD) ∧ IntsAre ys (cntZ (greedy Dv (Dv : Int) []) i)) ⟨rfl, .nil⟩ ?_ ?_
  · (refine postI ?_; intro G9 hG9; rintro i ys _ hi hP9; refine an2 hP9 ?_; clear hP9; rintro rfl hys; refine hG9 _ _ _ ?_; clear hG9 G9; refine postB ?_; intro G9 hG9; rintro CC oC9 D9 m₂ h9 tk9 its E' hP9; refine ex1 hP9 ?_; clear hP9; intro v hP9; refine an2 hP9 ?_; clear hP9; intro hQ1 hmv; refine ex1 hQ1 ?_; clear hQ1; intro u hP9; revert hP9; rintro rfl; refine hG9 _ _ _ _ _ _ _ _ ?_; clear hG9 G9; rintro hNs hits F₁ N₁ ap)
    (refine ex1 (map1 hits) ?_; intro oI hP9; revert hP9; rintro rfl)
    simp only [List.cons_append, List.nil_append] at N₁
    show wpAny _ _ _ _ _ _
    k_steps
    refine hold_in ?_
    refine count_list_ints ?hl9 hus ?_
    case hl9 => exact News.isList N₁ (by k_mem)
    (try dsimp only)
    k_steps
    refine GEnd.intro F₁ N₁ ap trivial ⟨rfl, ?_⟩
    have ei : ((0 : Int) + (i : Int) * 1) = (i : Int) := by omega
    rw [cntZ_succ, ei]
    exact ints_snoc hys
  · (refine postE ?_; intro G9 hG9; rintro ys _ hP9; refine an2 hP9 ?_; clear hP9; rintro rfl hys; refine hG9 _ _ ?_; clear hG9 G9; rintro lC h9 tk9 F₁ N₁ ap)
    simp only [List.cons_append, List.nil_append] at N₁
    k_steps
    refine hold_in ?_
    have hys' : IntsAre ys (cntZ (greedy Dv (Dv : Int) []) 16) := hys
    have hDC : Apart tabD [(lC, lst ys)] := fun p hp q hq => Ne.symm (ap q hq p (List.mem_append_right _ (List.mem_append_right _ hp)))
    have hDE : Apart tabD ((lP, lst [.int (pk (bitsW a0)) p0, .int (pk (bitsW a1')) p1, .int (pk (bitsW a2')) p2]) :: (lQ, lst [.ref q0, .ref q1, .ref q2]) :: (lR, listOf #[.ref g0, .ref g1, .ref g2] nR) :: (lZ, listOf (List.toArray us) nZ) :: TL) := fun p hp q hq => hE p (List.mem_append_right _ hp) q hq
    have hIC : Apart tabI [(lC, lst ys)] := fun p hp q hq => Ne.symm (ap q hq p (List.mem_append_right _ (List.mem_append_left _ hp)))
    have hIE : Apart tabI ((lP, lst [.int (pk (bitsW a0)) p0, .int (pk (bitsW a1')) p1, .int (pk (bitsW a2')) p2]) :: (lQ, lst [.ref q0, .ref q1, .ref q2]) :: (lR, listOf #[.ref g0, .ref g1, .ref g2] nR) :: (lZ, listOf (List.toArray us) nZ) :: TL) := fun p hp q hq => hE p (List.mem_append_left _ hp) q hq
    refine' Spec.use (rest := ([(lC, lst ys)] ++ ((lP, lst [.int (pk (bitsW a0)) p0, .int (pk (bitsW a1')) p1, .int (pk (bitsW a2')) p2]) :: (lQ, lst [.ref q0, .ref q1, .ref q2]) :: (lR, listOf #[.ref g0, .ref g1, .ref g2] nR) :: (lZ, listOf (List.toArray us) nZ) :: TL)) ++ tabI) (d2i_spec w 8 8 lC ys _ ys.length _ rfl (by decide) hys' (by rw [cntZ_len]; decide) (fun d hd => by have := hZ01 d hd; omega) tabD hD) ?kB ?kF ?kX ?kN ?kap ?kro ?kdr ?kT ?kd ?ku ?_
    case kB => k_asm
    case kF => k_asm
    case kX => k_asm
    case kT => k_asm
    case kN => ((rename News _ _ _ _ => N9); exact kst_newsOf N9 (by walk_at "m subT"))
    case kap => exact apart_symm (apart_app (apart_app (apart_symm hDC) (apart_symm hDE)) hID)
    case kd => decide +kernel
    case ku => decide +kernel
    case kro => exact fun q hq => (N₁ q ((show ∀ q ∈ [(lC, lst ys)], q ∈ _ by walk_at "m subT") q hq)).1
    case kdr => exact fun p hp q hq => (apart_symm hDC) p hp q hq
    (refine postG ?_; intro G9 hG9; rintro r5 tabD1 h5 tk5 hP9; refine an2 hP9 ?_; clear hP9; intro hQ2 hD1; refine ex1 hQ2 ?_; clear hQ2; intro t5 hP9; revert hP9; rintro rfl; refine hG9 _ _ _ _ ?_; clear hG9 G9; rintro F5 N5 ap5)
    simp only [List.cons_append, List.nil_append] at N5
    try dsimp only
    k_steps
    refine hold_in ?_
    (rename News _ _ _ _ => N52)
    have hD1C : Apart tabD1 [(lC, lst ys)] := fun p hp q hq => ap5 p hp q (List.mem_append_left _ (List.mem_append_left _ hq))
    have hD1E : Apart tabD1 ((lP, lst [.int (pk (bitsW a0)) p0, .int (pk (bitsW a1')) p1, .int (pk (bitsW a2')) p2]) :: (lQ, lst [.ref q0, .ref q1, .ref q2]) :: (lR, listOf #[.ref g0, .ref g1, .ref g2] nR) :: (lZ, listOf (List.toArray us) nZ) :: TL) := fun p hp q hq => ap5 p hp q (List.mem_append_left _ (List.mem_append_right _ hq))
    have hID1 : Apart tabI tabD1 := fun p hp q hq => Ne.symm (ap5 q hq p (List.mem_append_right _ hp))
    show wpAny _ _ (call (.ref 51) [.ref g2, _]) _ _ _
    refine' Spec.use (rest := ((lP, lst [.int (pk (bitsW a0)) p0, .int (pk (bitsW a1')) p1, .int (pk (bitsW a2')) p2]) :: (lQ, lst [.ref q0, .ref q1, .ref q2]) :: (lR, listOf #[.ref g0, .ref g1, .ref g2] nR) :: (lZ, listOf (List.toArray us) nZ) :: TL) ++ tabI) (d2i_spec w 8 8 g2 y2 (figs (settle (bitsW a2'))) m2 _ rfl (by decide) hy2 (by rw [figs_len, settle_len]; decide) (fun x hx => by have := figs_01 _ x hx; omega) tabD1 hD1) ?kB ?kF ?kX ?kN ?kap ?kro ?kdr ?kT ?kd ?ku ?_
    case kB => k_asm
    case kF => k_asm
    case kX => k_asm
    case kT => k_asm
    case kN => ((rename News _ _ _ _ => N9); exact kst_newsOf N9 (by walk_at "m subT"))
    case kap => exact apart_symm (apart_app (apart_symm hD1E) hID1)
    case kd => decide +kernel
    case ku => decide +kernel
    case kro => exact fun q hq => (N52 q ((show ∀ q ∈ [(g2, listOf (List.toArray y2) m2)], q ∈ _ by walk_at "m subT") q hq)).1
    case kdr => exact fun p hp q hq => (apart_symm hD1E) p ((show ∀ q ∈ [(g2, listOf (List.toArray y2) m2)], q ∈ _ by walk_at "m subT") p hp) q hq
    (refine postG ?_; intro G9 hG9; rintro r6 tabD2 h6 tk6 hP9; refine an2 hP9 ?_; clear hP9; intro hQ3 hD2; refine ex1 hQ3 ?_; clear hQ3; intro t6 hP9; revert hP9; rintro rfl; refine hG9 _ _ _ _ ?_; clear hG9 G9; rintro F6 N6 ap6)
    simp only [List.cons_append, List.nil_append] at N6
    have hD2E : Apart tabD2 ((lP, lst [.int (pk (bitsW a0)) p0, .int (pk (bitsW a1')) p1, .int (pk (bitsW a2')) p2]) :: (lQ, lst [.ref q0, .ref q1, .ref q2]) :: (lR, listOf #[.ref g0, .ref g1, .ref g2] nR) :: (lZ, listOf (List.toArray us) nZ) :: TL) := fun p hp q hq => ap6 p hp q (List.mem_append_left _ hq)
    have hID2 : Apart tabI tabD2 := fun p hp q hq => Ne.symm (ap6 q hq p (List.mem_append_right _ hp))
    try dsimp only
    k_steps
    refine hold_in ?_
    refine' Spec.use (rest := ((lP, lst [.int (pk (bitsW a0)) p0, .int (pk (bitsW a1')) p1, .int (pk (bitsW a2')) p2]) :: (lQ, lst [.ref q0, .ref q1, .ref q2]) :: (lR, listOf #[.ref g0, .ref g1, .ref g2] nR) :: (lZ, listOf (List.toArray us) nZ) :: TL) ++ tabD2) (i2d_spec w _ 8 23 _ _ _ _ (hx1 trivial) rfl (by decide) hx1b (by decide) tabI hI) ?kB ?kF ?kX ?kN ?kap (atAll_nil _) ?kdr ?kT ?kd ?ku ?_
    case kB => k_asm
    case kF => k_asm
    case kX => k_asm
    case kT => k_asm
    case kN => ((rename News _ _ _ _ => N9); exact kst_newsOf N9 (by walk_at "m subT"))
    case kap => exact apart_symm (apart_app (apart_symm hIE) (apart_symm hID2))
    case kd => decide +kernel
    case ku => decide +kernel
    case kdr => exact apart_nil _
    (refine postG ?_; intro G9 hG9; rintro r7 new7 h7 tk7 hP9; refine ex5 hP9 ?_; clear hP9; intro lG vsG nsG nG tabI1 hP9; refine an6 hP9 ?_; clear hP9; rintro rfl rfl hI1 hvG hlG hdG; refine hG9 _ _ _ _ ?_; clear hG9 G9; rintro F7 N7 ap7)
    simp only [List.cons_append, List.nil_append] at N7
    have hTs := hT1 nsG hdG hlG
    have hI1E : Apart tabI1 ((lP, lst [.int (pk (bitsW a0)) p0, .int (pk (bitsW a1')) p1, .int (pk (bitsW a2')) p2]) :: (lQ, lst [.ref q0, .ref q1, .ref q2]) :: (lR, listOf #[.ref g0, .ref g1, .ref g2] nR) :: (lZ, listOf (List.toArray us) nZ) :: TL) := fun p hp q hq => ap7 p (.tail _ hp) q (List.mem_append_left _ hq)
    have hI1D : Apart tabI1 tabD2 := fun p hp q hq => ap7 p (.tail _ hp) q (List.mem_append_right _ hq)
    have hlGb : ∀ d ∈ nsG, 0 ≤ d ∧ d < 2 ^ 20 := fun d hd => by have := digs_rng hdG d hd; omega
    try dsimp only
    k_steps
    refine hold_in ?_
    (rename News _ _ _ _ => N72)
    refine' Spec.use (rest := ([(lG, listOf (List.toArray vsG) nG)] ++ ((lP, lst [.int (pk (bitsW a0)) p0, .int (pk (bitsW a1')) p1, .int (pk (bitsW a2')) p2]) :: (lQ, lst [.ref q0, .ref q1, .ref q2]) :: (lR, listOf #[.ref g0, .ref g1, .ref g2] nR) :: (lZ, listOf (List.toArray us) nZ) :: TL)) ++ (tabI1 ++ tabD2)) (worth_spec w lT lG stepsL nsG vsT vsG nT nG 2 _ hT hvG rfl (by omega) hlGb) ?kB ?kF ?kX ?kN ?kap ?kro ?kdr ?kT ?kd ?ku ?_
    case kB => k_asm
    case kF => k_asm
    case kX => k_asm
    case kT => k_asm
    case kN => ((rename News _ _ _ _ => N9); exact kst_newsOf N9 (by walk_at "m subT"))
    case kap => exact apart_nil _
    case kd => decide +kernel
    case ku => decide +kernel
    case kro => exact fun q hq => (N72 q ((show ∀ q ∈ [(lT, listOf (List.toArray vsT) nT), (lG, listOf (List.toArray vsG) nG)], q ∈ _ by walk_at "m subT") q hq)).1
    case kdr => exact apart_symm (apart_nil _)
    (refine postG ?_; intro G9 hG9; rintro r8 new8 h8 tk8 hP9; refine an2 hP9 ?_; clear hP9; rintro rfl hP9; refine ex1 hP9 ?_; clear hP9; intro t8' hP9; revert hP9; intro hr8; refine hG9 _ _ _ _ ?_; clear hG9 G9; rintro F8 N8 ap8)
    rw [hTs] at hr8
    subst hr8
    simp only [List.cons_append, List.nil_append] at N8
    try dsimp only
    k_steps
    show wpAny _ _ (binaryOp .Mult (.int (pk (bitsW a0)) _) (.int (pk (bitsW a1')) _)) _ _ _
    k_steps
    show wpAny _ _ (binaryOp .Mult (.int (pk (bitsW a0) * pk (bitsW a1')) _) (.int (pk (bitsW a2')) _)) _ _ _
    k_steps
    refine hold_in ?_
    (rename News _ _ _ _ => N82)
    refine' Spec.use (rest := ((lP, lst [.int (pk (bitsW a0)) p0, .int (pk (bitsW a1')) p1, .int (pk (bitsW a2')) p2]) :: (lQ, lst [.ref q0, .ref q1, .ref q2]) :: (lR, listOf #[.ref g0, .ref g1, .ref g2] nR) :: (lZ, listOf (List.toArray us) nZ) :: TL) ++ tabD2) (i2d_spec w _ 8 21 _ _ _ _ hx2 rfl (by decide) hx2b (by decide) tabI1 hI1) ?kB ?kF ?kX ?kN ?kap (atAll_nil _) ?kdr ?kT ?kd ?ku ?_
    case kB => k_asm
    case kF => k_asm
    case kX => k_asm
    case kT => k_asm
    case kN => ((rename News _ _ _ _ => N9); exact kst_newsOf N9 (by walk_at "m subT"))
    case kap => exact apart_symm (apart_app (apart_symm hI1E) (apart_symm hI1D))
    case kd => decide +kernel
    case ku => decide +kernel
    case kdr => exact apart_nil _
    (refine postG ?_; intro G9 hG9; rintro r9 new9 h9' tk9' hP9; refine ex5 hP9 ?_; clear hP9; intro lH vsH nsH nH tabI3 hP9; refine an6 hP9 ?_; clear hP9; rintro rfl rfl hI3 hvH hlH hdH; refine hG9 _ _ _ _ ?_; clear hG9 G9; rintro F9 N9 ap9)
    simp only [List.cons_append, List.nil_append] at N9
    have hTs2 := hT2 nsH hdH hlH
    have hI3E : Apart tabI3 ((lP, lst [.int (pk (bitsW a0)) p0, .int (pk (bitsW a1')) p1, .int (pk (bitsW a2')) p2]) :: (lQ, lst [.ref q0, .ref q1, .ref q2]) :: (lR, listOf #[.ref g0, .ref g1, .ref g2] nR) :: (lZ, listOf (List.toArray us) nZ) :: TL) := fun p hp q hq => ap9 p (.tail _ hp) q (List.mem_append_left _ hq)
    have hI3D : Apart tabI3 tabD2 := fun p hp q hq => ap9 p (.tail _ hp) q (List.mem_append_right _ hq)
    have hlHb : ∀ d ∈ nsH, 0 ≤ d ∧ d < 2 ^ 20 := fun d hd => by have := digs_rng hdH d hd; omega
    try dsimp only
    k_steps
    refine hold_in ?_
    (rename News _ _ _ _ => N92)
    refine' Spec.use (rest := ([(lH, listOf (List.toArray vsH) nH)] ++ ((lP, lst [.int (pk (bitsW a0)) p0, .int (pk (bitsW a1')) p1, .int (pk (bitsW a2')) p2]) :: (lQ, lst [.ref q0, .ref q1, .ref q2]) :: (lR, listOf #[.ref g0, .ref g1, .ref g2] nR) :: (lZ, listOf (List.toArray us) nZ) :: TL)) ++ (tabI3 ++ tabD2)) (worth_spec w lT lH stepsL nsH vsT vsH nT nH 4 _ hT hvH rfl (by omega) hlHb) ?kB ?kF ?kX ?kN ?kap ?kro ?kdr ?kT ?kd ?ku ?_
    case kB => k_asm
    case kF => k_asm
    case kX => k_asm
    case kT => k_asm
    case kN => ((rename News _ _ _ _ => N9); exact kst_newsOf N9 (by walk_at "m subT"))
    case kap => exact apart_nil _
    case kd => decide +kernel
    case ku => decide +kernel
    case kro => exact fun q hq => (N92 q ((show ∀ q ∈ [(lT, listOf (List.toArray vsT) nT), (lH, listOf (List.toArray vsH) nH)], q ∈ _ by walk_at "m subT") q hq)).1
    case kdr => exact apart_symm (apart_nil _)
    (refine postG ?_; intro G9 hG9; rintro r10 new10 h10 tk10 hP9; refine an2 hP9 ?_; clear hP9; rintro rfl hP9; refine ex1 hP9 ?_; clear hP9; intro t10 hP9; revert hP9; intro hr10; refine hG9 _ _ _ _ ?_; clear hG9 G9; rintro F10 N10 ap10)
    rw [hTs2] at hr10
    subst hr10
    simp only [List.cons_append, List.nil_append] at N10
    try dsimp only
    k_steps
    refine hold_in ?_
    (rename News _ _ _ _ => N102)
    have apF : Apart (tabI3 ++ tabD2) ((lP, lst [.int (pk (bitsW a0)) p0, .int (pk (bitsW a1')) p1, .int (pk (bitsW a2')) p2]) :: (lQ, lst [.ref q0, .ref q1, .ref q2]) :: (lR, listOf #[.ref g0, .ref g1, .ref g2] nR) :: (lZ, listOf (List.toArray us) nZ) :: TL) := apart_app hI3E hD2E
    refine' Spec.use (rest := ((lP, lst [.int (pk (bitsW a0)) p0, .int (pk (bitsW a1')) p1, .int (pk (bitsW a2')) p2]) :: (lQ, lst [.ref q0, .ref q1, .ref q2]) :: (lR, listOf #[.ref g0, .ref g1, .ref g2] nR) :: (lZ, listOf (List.toArray us) nZ) :: TL)) (quo_spec w Tv _ lT vsT nT _ rfl hTb hT tabI3 tabD2 hI3 hD2 hI3D) ?kB ?kF ?kX ?kN ?kap ?kro ?kdr ?kT ?kd ?ku ?_
    case kB => k_asm
    case kF => k_asm
    case kX => k_asm
    case kT => k_asm
    case kN => ((rename News _ _ _ _ => N9); exact kst_newsOf N9 (by walk_at "m subT"))
    case kap => exact apF
    case kd => decide +kernel
    case ku => decide +kernel
    case kro => exact fun q hq => (N102 q ((show ∀ q ∈ [(lT, listOf (List.toArray vsT) nT)], q ∈ _ by walk_at "m subT") q hq)).1
    case kdr => exact fun p hp q hq => (apart_symm apF) p ((show ∀ q ∈ [(lT, listOf (List.toArray vsT) nT)], q ∈ _ by walk_at "m subT") p hp) q hq
    (refine postG ?_; intro G9 hG9; rintro r11 new11 h11 tk11 hP9; refine ex6 hP9 ?_; clear hP9; intro lY t11 t12 nY tabI4 tabD4 hP9; refine an5 hP9 ?_; clear hP9; rintro rfl rfl hI4 hD4 hID4; refine hG9 _ _ _ _ ?_; clear hG9 G9; rintro F11 N11 ap11)
    simp only [List.cons_append, List.nil_append, List.append_assoc] at N11
    try dsimp only
    k_steps
    refine hold_in ?_
    (rename News _ _ _ _ => N112)
    have hw2 := wth_40 a2'
    have hu2 := wth_pu a2'
    have hSb : (Dv + 1) * 196418 / 317811 < 3000 := by omega
    show wpAny _ _ (call (.ref 174) [.ref lU, .ref q2]) _ _ _
    refine' Spec.use (rest := [(lY, tupOf [.int (Tv : Int) t11, .int (((Tv + 1) * 196418 / 317811 : Nat) : Int) t12] nY)] ++ (((lP, lst [.int (pk (bitsW a0)) p0, .int (pk (bitsW a1')) p1, .int (pk (bitsW a2')) p2]) :: (lQ, lst [.ref q0, .ref q1, .ref q2]) :: (lR, listOf #[.ref g0, .ref g1, .ref g2] nR) :: (lZ, listOf (List.toArray us) nZ) :: TL) ++ (tabI4 ++ tabD4))) (times_spec w lU q2 nU nq2 (Dv : Int) (((Dv + 1) * 196418 / 317811 : Nat) : Int) (wth (bitsW a2')) (pu (wth (bitsW a2'))) t7 t8 ta2 tb2 (by omega) (by omega) (by omega) (by omega)) ?kB ?kF ?kX ?kN ?kap ?kro ?kdr ?kT ?kd ?ku ?_
    case kB => k_asm
    case kF => k_asm
    case kX => k_asm
    case kT => k_asm
    case kN => ((rename News _ _ _ _ => N9); exact kst_newsOf N9 (by walk_at "m subT"))
    case kap => exact apart_nil _
    case kd => decide +kernel
    case ku => decide +kernel
    case kro => exact fun q hq => (N112 q ((show ∀ q ∈ [(lU, tupOf [.int (Dv : Int) t7, .int (((Dv + 1) * 196418 / 317811 : Nat) : Int) t8] nU), (q2, tupOf [.int (wth (bitsW a2')) ta2, .int (pu (wth (bitsW a2'))) tb2] nq2)], q ∈ _ by walk_at "m subT") q hq)).1
    case kdr => exact apart_symm (apart_nil _)
    (refine postG ?_; intro G9 hG9; rintro r12 new12 h12 tk12 hP9; refine ex4 hP9 ?_; clear hP9; intro lX t13 t14 nX hP9; refine an2 hP9 ?_; clear hP9; rintro rfl rfl; refine hG9 _ _ _ _ ?_; clear hG9 G9; rintro F12 N12 ap12)
    rw [hR1, hR2] at N12
    simp only [List.cons_append, List.nil_append] at N12
    try dsimp only
    k_steps
    refine hold_in ?_
    (rename News _ _ _ _ => N122)
    refine eq_dataH (reads_tuple_at (N122.get (a := lY) (by infer_instance)) rfl rfl (ReadsAll.cons (Reads.int _ _) (ReadsAll.cons (Reads.int _ _) ReadsAll.nil))) (reads_tuple_at (N122.get (a := lX) (by infer_instance)) rfl rfl (ReadsAll.cons (Reads.int _ _) (ReadsAll.cons (Reads.int _ _) ReadsAll.nil))) rfl rfl (by rw [units_deeper, units_caller]; decide +kernel) ?_
    simp only [PyData.eqv, PyData.eqvAll, beq_self_eq_true, decide_true, Bool.and_true, Bool.true_and, Bool.not_true]
    k_steps
    exact K _ _ _ F12 ⟨GrownAt.of (P := 116) (ps := #[rawInt 176, rawInt 4, .ref c]) N122 (by infer_instance), tab_grown hD4 N122 (by walk_at "m subT"), tab_grown hI4 N122 (by walk_at "m subT"), trivial⟩
    all_goals (rename_i hcx; exact absurd rfl hcx)
end
end
theorem wOff_S_join : True := by
  w_top off
  trivial
theorem fig_word {z o : Nat} (h : (z, o) ∈ zoL) (a : Nat) : figL o (wordL z o a).reverse = figs (bitsW a) := by rw [word_bw, fig_bw (zo_ne _ h)]
theorem nth_of {l r : List Stmt} (h : l = r) (i : Nat) : l[i]? = r[i]? := by rw [h]
theorem law_split : ∃ (s0 s1 s2 s3 s4 s5 s6 s7 s8 s9 s10 s11 s12 s13 s14 s15 s16 s17 s18 s19 s20 s21 s22 : Stmt) (rb : List Stmt), lawBody = s0 :: s1 :: s2 :: s3 :: s4 :: s5 :: s6 :: s7 :: s8 :: s9 :: s10 :: s11 :: s12 :: s13 :: s14 :: s15 :: s16 :: s17 :: s18 :: s19 :: s20 :: s21 :: s22 :: rb := ⟨_, _, _, _, _, _, _, _, _, _, _, _, _, _, _, _, _, _, _, _, _, _, _, _, rfl⟩
theorem give_split : ∃ (params : Arguments) (body : List Stmt) (scope : Scope) (pos : Pos), stmtOf (Str.ofString "_law_stream") 2 = .FunctionDef (Str.ofString "give") params body [] none [] scope none (Str.ofString "give") pos := ⟨_, _, _, _, rfl⟩
theorem ints3v {vs : List Value} {x y z : Int} (h : IntsAre vs [x, y, z]) : ∃ t0 t1 t2, vs = [.int x t0, .int y t1, .int z t2] := by
  (refine ex2 (ints_cons h) ?_; intro t0 v0 hP9; refine an2 hP9 ?_; clear hP9; rintro rfl h0)
  (refine ex2 (ints_cons h0) ?_; intro t1 v1 hP9; refine an2 hP9 ?_; clear hP9; rintro rfl h1)
  (refine ex2 (ints_cons h1) ?_; intro t2 v2 hP9; refine an2 hP9 ?_; clear hP9; rintro rfl h2)
  rw [ints_nil h2]
  exact ⟨t0, t1, t2, rfl⟩
theorem len3 {α : Type} {vs : List α} (h : vs.length = 3) : ∃ v0 v1 v2, vs = [v0, v1, v2] := by
  rcases vs with _ | ⟨a, _ | ⟨b, _ | ⟨c, _ | ⟨d, r⟩⟩⟩⟩
  · cases h
  · cases h
  · cases h
  · exact ⟨a, b, c, rfl⟩
  · simp at h
theorem strs3v {vs : List Value} {x y z : Str} (h : StrsAre vs [x, y, z]) : ∃ t0 t1 t2, vs = [.str x t0, .str y t1, .str z t2] := by
  (refine ex2 (strs_cons h) ?_; intro t0 v0 hP9; refine an2 hP9 ?_; clear hP9; rintro rfl h0)
  (refine ex2 (strs_cons h0) ?_; intro t1 v1 hP9; refine an2 hP9 ?_; clear hP9; rintro rfl h1)
  (refine ex2 (strs_cons h1) ?_; intro t2 v2 hP9; refine an2 hP9 ?_; clear hP9; rintro rfl h2)
  rw [strs_nil h2]
  exact ⟨t0, t1, t2, rfl⟩
theorem ints3 {vs : List Value} {ns : List Int} (hI : IntsAre vs ns) (hl : ns.length = 3) (h : ∀ n ∈ ns, 0 ≤ n ∧ n < 128) : ∃ (a b c : Nat) (u0 u1 u2 : Tok), vs = [.int (a : Int) u0, .int (b : Int) u1, .int (c : Int) u2] ∧ a < 128 ∧ b < 128 ∧ c < 128 := by
  (refine ex3 (len3 hl) ?_; intro x0 x1 x2 hP9; revert hP9; rintro rfl)
  (refine ex3 (ints3v hI) ?_; intro u0 u1 u2 hP9; revert hP9; rintro rfl)
  have nn : ∀ x : Int, 0 ≤ x ∧ x < 128 → ∃ n : Nat, x = n ∧ n < 128 := fun x hx => ⟨x.toNat, (Int.toNat_of_nonneg hx.1).symm, (Int.toNat_lt hx.1).mpr hx.2⟩
  (refine ex1 (nn _ (h _ (.head _))) ?_; intro a hP9; refine an2 hP9 ?_; clear hP9; rintro rfl ha)
  (refine ex1 (nn _ (h _ (.tail _ (.head _)))) ?_; intro b hP9; refine an2 hP9 ?_; clear hP9; rintro rfl hb)
  (refine ex1 (nn _ (h _ (.tail _ (.tail _ (.head _))))) ?_; intro c hP9; refine an2 hP9 ?_; clear hP9; rintro rfl hc)
  exact in6 a b c u0 u1 u2 ⟨rfl, ha, hb, hc⟩
theorem ord_lex {C D c fG dS xS dL xL pL : Nat} (h : 116 < C ∧ C < D ∧ D < c ∧ c < fG ∧ fG < dS ∧ dS < xS ∧ xS < dL ∧ dL < xL ∧ xL < pL) : AptA [xL, dL, pL] [xS, dS, fG, c, D, C] ∧ AptA [xL, dL, pL, xS, dS, fG, c, D, C] [116] := by
  (refine an9 h ?_; intro a1 a2 a3 a4 a5 a6 a7 a8 a9)
  have b5 := Nat.lt_trans a5 a6
  have b4 := Nat.lt_trans a4 b5
  have b3 := Nat.lt_trans a3 b4
  have b2 := Nat.lt_trans a2 b3
  have e2 := Nat.lt_trans a1 a2
  have e3 := Nat.lt_trans e2 a3
  have e4 := Nat.lt_trans e3 a4
  have e5 := Nat.lt_trans e4 a5
  have e6 := Nat.lt_trans e5 a6
  have b8 := Nat.lt_trans a7 a8
  have h1 : ∀ x ∈ [xL, dL, pL], xS < x := List.forall_mem_cons.mpr ⟨b8, List.forall_mem_cons.mpr ⟨a7, List.forall_mem_cons.mpr ⟨Nat.lt_trans b8 a9, List.forall_mem_nil _⟩⟩⟩
  have h2 : ∀ x ∈ [xS, dS, fG, c, D, C], x ≤ xS ∧ 116 < x := List.forall_mem_cons.mpr ⟨⟨Nat.le_refl _, e6⟩, List.forall_mem_cons.mpr ⟨⟨Nat.le_of_lt a6, e5⟩, List.forall_mem_cons.mpr ⟨⟨Nat.le_of_lt b5, e4⟩, List.forall_mem_cons.mpr ⟨⟨Nat.le_of_lt b4, e3⟩, List.forall_mem_cons.mpr ⟨⟨Nat.le_of_lt b3, e2⟩, List.forall_mem_cons.mpr ⟨⟨Nat.le_of_lt b2, a1⟩, List.forall_mem_nil _⟩⟩⟩⟩⟩⟩
  refine ⟨fun x hx y hy => Nat.ne_of_gt (Nat.lt_of_le_of_lt (h2 y hy).1 (h1 x hx)), fun x hx y hy => ?_⟩
  rw [List.mem_singleton.mp hy]
  rcases List.mem_append.mp (show x ∈ [xL, dL, pL] ++ [xS, dS, fG, c, D, C] from hx) with hx | hx
  · exact Nat.ne_of_gt (Nat.lt_trans (h2 xS (.head _)).2 (h1 x hx))
  · exact Nat.ne_of_gt (h2 x hx).2
section
theorem law_all (w : World) {lscope : Scope} {A fa : Addr} {cd : Value} (hsc : lawScope = lscope) {p : Program} {loose : List Str} {mean : ExcName → Option Value} {mg mb : Str → Option Value} {g : Heap} (B : Below callerA g [] g) (X : (Mine.hd.heap_39 w.params).In g) (T : Top p loose mean mg mb g) {R1 : Value → Shared → Prop} {Q : Flow → Shared → Prop} {s : Shared} {m : Str → Option Value} (F : Fr g A s.heap m) {o1 o2 o3 o4 o5 o6 : Obj} {ls : Addr} {vs : List Value} {xs : List Int}
   (N : News g A s.heap [(A + 1 + 1 + 1 + 1 + 1 + 1, o6), (A + 1 + 1 + 1 + 1 + 1, o5), (A + 1 + 1 + 1 + 1, o4), (A + 1 + 1 + 1, o3), (A + 1 + 1, o2), (A + 1, o1), (116, tabObj #[]), (46, tabObj #[]), (39, tabObj #[])])
   (d1 : o1.data = .cell (some (.ref ls))) (d2 : o2.data = .cell none) (d3 : o3.data = .cell none) (d4 : o4.data = .cell none) (d5 : o5.data = .cell none) (d6 : o6.data = .cell none) (hls : g.IsList ls vs.toArray) (hI : IntsAre vs xs) (hxl : xs.length ≤ 63) (hA : @LT.lt Nat _ 116 A ∧ @LT.lt Nat _ 46 A ∧ @LT.lt Nat _ 39 A)
   (K : ∀ (h' : Heap) (tk' : Nat) (m' : Str → Option Value), Fr g A h' m' → GrownAll [(120, 116), (50, 46), (43, 39)] h' → Q (.ret (.bool true)) { s with heap := h', toks := tk' }) :
   wpAny (model PySem.Challenge.rw_sw0064_01.row.prog w) (callerA.deeper (envOfC (Str.ofString "law") lscope A fa cd)) (execs lawBody (envOfC (Str.ofString "law") lscope A fa cd)) Q (fun e s' => wpAny (model PySem.Challenge.rw_sw0064_01.row.prog w) (callerA.deeper (envOfC (Str.ofString "law") lscope A fa cd)) (leaving (envOfC (Str.ofString "law") lscope A fa cd) e) (fun _ s'' => R1 e s'') (fun e' s'' => R1 e' s'') s') s := by
  (refine ex8 law_split ?_; intro s0 s1 s2 s3 s4 s5 s6 s7 hP9; refine ex8 hP9 ?_; clear hP9; intro s8 s9 s10 s11 s12 s13 s14 s15 hP9; refine ex8 hP9 ?_; clear hP9; intro s16 s17 s18 s19 s20 s21 s22 rb hP9; revert hP9; intro hb)
  (refine ex4 give_split ?_; intro params body scope pos hP9; revert hP9; intro hst)
  rw [hb]
  refine execs_split [s0, s1, s2, s3, s4] (s5 :: s6 :: s7 :: s8 :: s9 :: s10 :: s11 :: s12 :: s13 :: s14 :: s15 :: s16 :: s17 :: s18 :: s19 :: s20 :: s21 :: s22 :: rb) ?_
  refine la (nth_of hb 0) (nth_of hb 1) (nth_of hb 2) (nth_of hb 3) (nth_of hb 4) w hsc B X T F N d1 d2 d3 d4 hls hI hxl hA ?_
  intro p0 lT lN vsT vsN nT nN ns o2 o3 o4 u3 u4 h1 k1 m1 hp hT hNs hl3 hbn F1 N1 d2 d3 d4 hm1 ap1 ap2
  obtain ⟨z, o⟩ := p0
  (refine ex6 (ints3 hNs hl3 hbn) ?_; intro a b c' u0 u1 u2 hP9; refine an4 hP9 ?_; clear hP9; rintro rfl ha hb1 hc)
  refine execs_split [s5] (s6 :: s7 :: s8 :: s9 :: s10 :: s11 :: s12 :: s13 :: s14 :: s15 :: s16 :: s17 :: s18 :: s19 :: s20 :: s21 :: s22 :: rb) ?_
  refine lb (nth_of hb 5) w hsc B X T F1 (a0 := a) (a1' := b) (a2' := c') (z := z) (o := o) (vsT := vsT) hst N1 rfl rfl rfl ⟨ha, hb1, hc⟩ d3 d4 d5 hm1 hA ap1 ap2 ?_
  intro xS dS fG c D C pS xL dL pL oc oC o5 doc pm ct a1 b1 a2 a3 b3 a4 a5 e1 e2 e3 f3 e4 bl vs2 n np h2 k2 hvs hoc hoC d5 hord F2 N2 apX
  clear N1 N F F1
  have hox := ord_lex hord
  -- what lies behind
  (refine ex1 (show ∃ T : Led, T = [(lN, listOf #[.int (a : Int) u0, .int (b : Int) u1, .int (c' : Int) u2] nN), (lT, listOf (List.toArray vsT) nT), (A + 1 + 1 + 1 + 1 + 1 + 1, o6), (A + 1 + 1 + 1 + 1 + 1, o5), (A + 1 + 1 + 1 + 1, o4), (A + 1 + 1 + 1, o3), (A + 1 + 1, o2), (A + 1, o1), (116, tabObj #[rawInt 176, rawInt 4, .ref c]), (46, tabObj #[]), (39, tabObj #[])] from ⟨_, rfl⟩) ?_; intro TL0 hP9; revert hP9; intro hTL0)
  have mN : (lN, listOf #[.int (a : Int) u0, .int (b : Int) u1, .int (c' : Int) u2] nN) ∈ TL0 := by rw [hTL0]; k_mem
  have mT : (lT, listOf (List.toArray vsT) nT) ∈ TL0 := by rw [hTL0]; k_mem
  have q2 : (A + 1 + 1, o2) ∈ TL0 := by rw [hTL0]; k_mem
  have q3 : (A + 1 + 1 + 1, o3) ∈ TL0 := by rw [hTL0]; k_mem
  have q4 : (A + 1 + 1 + 1 + 1, o4) ∈ TL0 := by rw [hTL0]; k_mem
  have q5 : (A + 1 + 1 + 1 + 1 + 1, o5) ∈ TL0 := by rw [hTL0]; k_mem
  (refine ex1 (show ∃ T : List Value → Nat → Led, ∀ vs n, T vs n = [(xS, instObj 110 dS), (dS, dictOf [{ hash := PyData.keyHash w.params (Str.ofString "lineno"), key := Value.str (Str.ofString "lineno") a1, val := Value.int 1 b1 }, { hash := PyData.keyHash w.params (Str.ofString "instream"), key := Value.str (Str.ofString "instream") a2, val := Value.none }, { hash := PyData.keyHash w.params (Str.ofString "whitespace"), key := Value.str (Str.ofString "whitespace") a3, val := Value.str (Str.ofString "\n\t\r ") b3 }, { hash := PyData.keyHash w.params (Str.ofString "pushback"), key := Value.str (Str.ofString "pushback") a4, val := Value.ref pS }, { hash := PyData.keyHash w.params (Str.ofString "read"), key := Value.str (Str.ofString "read") a5, val := Value.ref fG }] 5), (fG, fnMade (Str.ofString "give") (Str.ofString "_law_stream.<locals>.give") params body scope [(Str.ofString "signs", C)] doc pm c ct), (c, oc), (D, listOf (List.toArray (vs)) n), (C, oC)] from ⟨_, fun _ _ => rfl⟩) ?_; intro SO hP9; revert hP9; intro hSO)
  have hSa : ∀ vs n, (SO vs n).map (·.1) = [xS, dS, fG, c, D, C] := fun vs n => by rw [hSO]; rfl
  have hTa : TL0.map (·.1) = [lN, lT, A + 1 + 1 + 1 + 1 + 1 + 1, A + 1 + 1 + 1 + 1 + 1, A + 1 + 1 + 1 + 1, A + 1 + 1 + 1, A + 1 + 1, A + 1, 116, 46, 39] := by rw [hTL0]; rfl
  have hX0 : AptA [xL, dL, pL, xS, dS, fG, c, D, C] [lN, lT, A + 1 + 1 + 1 + 1 + 1 + 1, A + 1 + 1 + 1 + 1 + 1, A + 1 + 1 + 1 + 1, A + 1 + 1 + 1, A + 1 + 1, A + 1, 116, 46, 39] := fun x hx y hy =>
    (List.mem_append.mp ((show ∀ y ∈ [lN, lT, A + 1 + 1 + 1 + 1 + 1 + 1, A + 1 + 1 + 1 + 1 + 1, A + 1 + 1 + 1 + 1, A + 1 + 1 + 1, A + 1 + 1, A + 1, 116, 46, 39], y ∈ [lN, lT, A + 1 + 1 + 1 + 1 + 1 + 1, A + 1 + 1 + 1 + 1 + 1, A + 1 + 1 + 1 + 1, A + 1 + 1 + 1, A + 1 + 1, A + 1, 46, 39] ++ [116] by walk_at "m sub") y hy)).elim (apX x hx y) (hox.2 x hx y)
  clear apX
  have hM : ∀ np vs n lv bl, (([(xL, instObj 110 dL), (dL, dictOf [{ hash := PyData.keyHash w.params (Str.ofString "lineno"), key := Value.str (Str.ofString "lineno") e1, val := Value.int (lv) bl }, { hash := PyData.keyHash w.params (Str.ofString "instream"), key := Value.str (Str.ofString "instream") e2, val := Value.ref xS }, { hash := PyData.keyHash w.params (Str.ofString "whitespace"), key := Value.str (Str.ofString "whitespace") e3, val := Value.str (Str.ofString "\n\t\r ") f3 }, { hash := PyData.keyHash w.params (Str.ofString "pushback"), key := Value.str (Str.ofString "pushback") e4, val := Value.ref pL }] 4), (pL, listOf #[] np)] : Led) ++ SO vs n).map (·.1) = [xL, dL, pL, xS, dS, fG, c, D, C] := fun np vs n lv bl => by rw [List.map_append, hSa]; rfl
  have hXM : ∀ np vs n lv bl, Apart (([(xL, instObj 110 dL), (dL, dictOf [{ hash := PyData.keyHash w.params (Str.ofString "lineno"), key := Value.str (Str.ofString "lineno") e1, val := Value.int (lv) bl }, { hash := PyData.keyHash w.params (Str.ofString "instream"), key := Value.str (Str.ofString "instream") e2, val := Value.ref xS }, { hash := PyData.keyHash w.params (Str.ofString "whitespace"), key := Value.str (Str.ofString "whitespace") e3, val := Value.str (Str.ofString "\n\t\r ") f3 }, { hash := PyData.keyHash w.params (Str.ofString "pushback"), key := Value.str (Str.ofString "pushback") e4, val := Value.ref pL }] 4), (pL, listOf #[] np)] : Led) ++ SO vs n) TL0 := fun np vs n lv bl => apart_of_aptA (by rw [hM, hTa]; exact hX0)
  have hgt : ∀ (np : Nat) (vs : List Value) (rs wd rr : List Nat) (n : Nat) (lv : Int) (bl : Tok), StrsAre vs (rs.reverse.map sg) → rs.length ≤ 62 → 0 ≤ lv ∧ lv + rs.length ≤ 2000 → Reads rs wd rr → Spec w (.ref 100) [.ref xL] 8 60 [] (([(xL, instObj 110 dL), (dL, dictOf [{ hash := PyData.keyHash w.params (Str.ofString "lineno"), key := Value.str (Str.ofString "lineno") e1, val := Value.int (lv) bl }, { hash := PyData.keyHash w.params (Str.ofString "instream"), key := Value.str (Str.ofString "instream") e2, val := Value.ref xS }, { hash := PyData.keyHash w.params (Str.ofString "whitespace"), key := Value.str (Str.ofString "whitespace") e3, val := Value.str (Str.ofString "\n\t\r ") f3 }, { hash := PyData.keyHash w.params (Str.ofString "pushback"), key := Value.str (Str.ofString "pushback") e4, val := Value.ref pL }] 4), (pL, listOf #[] np)] : Led) ++ SO vs n) (fun r nw => ∃ vs' n' t' lv' bl', nw = ([(xL, instObj 110 dL), (dL, dictOf [{ hash := PyData.keyHash w.params (Str.ofString "lineno"), key := Value.str (Str.ofString "lineno") e1, val := Value.int (lv') bl' }, { hash := PyData.keyHash w.params (Str.ofString "instream"), key := Value.str (Str.ofString "instream") e2, val := Value.ref xS }, { hash := PyData.keyHash w.params (Str.ofString "whitespace"), key := Value.str (Str.ofString "whitespace") e3, val := Value.str (Str.ofString "\n\t\r ") f3 }, { hash := PyData.keyHash w.params (Str.ofString "pushback"), key := Value.str (Str.ofString "pushback") e4, val := Value.ref pL }] 4), (pL, listOf #[] np)] : Led) ++ SO vs' n' ∧ StrsAre vs' (rr.reverse.map sg) ∧ r = .str (strL wd) t' ∧ 0 ≤ lv' ∧ lv' + rr.length ≤ 2000) := by
    intro np vs rs wd rr n lv bl h1 h2 h3 h4
    simp only [hSO]
    exact gtk_spec w (xS := xS) (dS := dS) (fG := fG) (c := c) (D := D) (C := C) (pS := pS) (oc := oc) (oC := oC) (doc := doc) (pm := pm) (ct := ct) (a1 := a1) (b1 := b1) (a2 := a2) (a3 := a3) (b3 := b3) (a4 := a4) (a5 := a5) (params := params) (body := body) (scope := scope) (pos := pos) (xL := xL) (dL := dL) (pL := pL) (e1 := e1) (e2 := e2) (e3 := e3) (f3 := f3) (e4 := e4) hst hoc hoC hord h1 h2 h3 h4
  have N2' : News g A h2 ((([(xL, instObj 110 dL), (dL, dictOf [{ hash := PyData.keyHash w.params (Str.ofString "lineno"), key := Value.str (Str.ofString "lineno") e1, val := Value.int (1) bl }, { hash := PyData.keyHash w.params (Str.ofString "instream"), key := Value.str (Str.ofString "instream") e2, val := Value.ref xS }, { hash := PyData.keyHash w.params (Str.ofString "whitespace"), key := Value.str (Str.ofString "whitespace") e3, val := Value.str (Str.ofString "\n\t\r ") f3 }, { hash := PyData.keyHash w.params (Str.ofString "pushback"), key := Value.str (Str.ofString "pushback") e4, val := Value.ref pL }] 4), (pL, listOf #[] np)] : Led) ++ SO vs2 n) ++ TL0) := by rw [hSO, hTL0]; exact N2
  clear N2
  refine execs_split [s6, s7] (s8 :: s9 :: s10 :: s11 :: s12 :: s13 :: s14 :: s15 :: s16 :: s17 :: s18 :: s19 :: s20 :: s21 :: s22 :: rb) ?_
  refine lc (nth_of hb 6) (nth_of hb 7) w hsc B X T F2 (as := [a, b, c']) (nv := [.int (a : Int) u0, .int (b : Int) u1, .int (c' : Int) u2]) (e1 := e1) (e2 := e2) (e3 := e3) (e4 := e4) (f3 := f3) (xS := xS) (pL := pL) (ML := fun vs n lv bl => ([(xL, instObj 110 dL), (dL, dictOf [{ hash := PyData.keyHash w.params (Str.ofString "lineno"), key := Value.str (Str.ofString "lineno") e1, val := Value.int (lv) bl }, { hash := PyData.keyHash w.params (Str.ofString "instream"), key := Value.str (Str.ofString "instream") e2, val := Value.ref xS }, { hash := PyData.keyHash w.params (Str.ofString "whitespace"), key := Value.str (Str.ofString "whitespace") e3, val := Value.str (Str.ofString "\n\t\r ") f3 }, { hash := PyData.keyHash w.params (Str.ofString "pushback"), key := Value.str (Str.ofString "pushback") e4, val := Value.ref pL }] 4), (pL, listOf #[] np)] : Led) ++ SO vs n) (hgt np) (fun _ _ _ _ => .head _) (fun _ _ _ _ => .tail _ (.head _)) (hXM np) N2' mN q3 q4 q5 hp (.cons _ _ (.cons _ _ (.cons _ _ .nil))) (Nat.le_refl 3) (by intro x hx; simp only [List.mem_cons, List.not_mem_nil, or_false] at hx; rcases hx with rfl | rfl | rfl <;> assumption) d3 d4 d5 hm1 hvs ?_
  intro lW ws vs3 n3 lv bl3 rs kw h3 k3 m3 hws hG hvs3 hlv F3 N3 apW hmW
  (refine ex3 (strs3v hws) ?_; intro t0 t1 t2 hP9; revert hP9; rintro rfl)
  refine execs_split [s8] (s9 :: s10 :: s11 :: s12 :: s13 :: s14 :: s15 :: s16 :: s17 :: s18 :: s19 :: s20 :: s21 :: s22 :: rb) ?_
  refine ld (nth_of hb 8) w hsc B X T F3 (as := [a, b, c']) (z := z) N3 (.head _) (.tail _ (List.mem_append_right _ q4)) d4 rfl (show 3 ≤ 9 by decide) (by rintro (_ | _ | _ | i) v x hv hx <;> cases hv <;> cases hx <;> exact ⟨_, rfl⟩) hmW ?_
  intro lD fs FL nD h4 k4 m4 hfl hFS F4 N4 apD fm4 hmD
  have hmW4 : m4 (Str.ofString "words") = some (.ref lW) := (fm4 _ (by decide +kernel)).trans hmW
  have hWa : AptA [lW] ([xL, dL, pL, xS, dS, fG, c, D, C] ++ [lN, lT, A + 1 + 1 + 1 + 1 + 1 + 1, A + 1 + 1 + 1 + 1 + 1, A + 1 + 1 + 1 + 1, A + 1 + 1 + 1, A + 1 + 1, A + 1, 116, 46, 39]) := by
    have h9 := aptA_of apW
    rw [List.map_append, hM, hTa] at h9
    exact h9
  generalize hlD : (lD, listOf (List.toArray fs) nD) = eD at *
  refine execs_split [s9] (s10 :: s11 :: s12 :: s13 :: s14 :: s15 :: s16 :: s17 :: s18 :: s19 :: s20 :: s21 :: s22 :: rb) ?_
  refine le (nth_of hb 9) w hsc B X T F4 (e1 := e1) (e2 := e2) (e3 := e3) (e4 := e4) (f3 := f3) (xS := xS) (xL := xL) (dL := dL) (pL := pL) (lv := lv) (bl := bl3) (t0 := t0) (t1 := t1) (t2 := t2) (kw := kw) (np := np) (lW := lW) (z := z) (o := o) (a0 := a) (a1' := b) (a2' := c') (TL := SO vs3 n3 ++ (eD :: (FL ++ TL0))) ⟨hord.2.2.2.2.2.2.2.1, hord.2.2.2.2.2.2.2.2⟩ (kst_newsOf N4 ?sle) hp (List.mem_append_right _ (.tail _ (List.mem_append_right _ q3))) (List.mem_append_right _ (.tail _ (List.mem_append_right _ q4))) (List.mem_append_right _ (.tail _ (List.mem_append_right _ q5))) d3 d4 d5 ?ale ?xle hmW4 ?_
  case sle => exact sub_appI (sub_cons (by k_mem) (sub_cons (by k_mem) (sub_cons (by k_mem) (sub_cons (by k_mem) sub_nil)))) (sub_appI (sub_skip (sub_appR (sub_skip (sub_appL (sub_appR sub_refl))))) (sub_cons (.head _) (sub_appI (sub_skip (sub_appL sub_refl)) (sub_skip (sub_appR (sub_skip (sub_appR sub_refl)))))))
  case ale => exact hWa.mono sub_refl (by walk_at "m sub")
  case xle =>
    intro o9 n9
    refine apart_two (apart_of_aptA (by rw [hSa]; exact aptA_cons (hWa.mono sub_refl (by walk_at "m sub")) hox.1)) (show Apart _ ((eD :: FL) ++ TL0) from apart_two ?_ ?_)
    · exact apart_addr (apart_symm (apart_mono apD sub_refl (show ∀ p ∈ ([(lW, listOf (List.toArray [.str (strL (wordL z o a)) t0, .str (strL (wordL z o b)) t1, .str (strL (wordL z o c')) t2]) kw), (xL, instObj 110 dL), (dL, dictOf [{ hash := PyData.keyHash w.params (Str.ofString "lineno"), key := Value.str (Str.ofString "lineno") e1, val := Value.int (lv) bl3 }, { hash := PyData.keyHash w.params (Str.ofString "instream"), key := Value.str (Str.ofString "instream") e2, val := Value.ref xS }, { hash := PyData.keyHash w.params (Str.ofString "whitespace"), key := Value.str (Str.ofString "whitespace") e3, val := Value.str (Str.ofString "\n\t\r ") f3 }, { hash := PyData.keyHash w.params (Str.ofString "pushback"), key := Value.str (Str.ofString "pushback") e4, val := Value.ref pL }] 4), (pL, listOf #[] np)] : Led), p ∈ _ by walk_at "m sub"))) rfl rfl
    · exact apart_of_aptA (by rw [hTa]; exact aptA_cons (hWa.mono sub_refl (by walk_at "m sub")) (hX0.mono (by walk_at "m sub") sub_refl))
  intro lR gs GL nR np5 h5 k5 m5 hgl hGS F5 N5 apR fm5 hmR
  have hmD5 : m5 (Str.ofString "drawn") = some (.ref lD) := (fm5 _ (by decide +kernel)).trans hmD
  generalize hlR : (lR, listOf (List.toArray gs) nR) = eR at *
  refine execs_split [s10] (s11 :: s12 :: s13 :: s14 :: s15 :: s16 :: s17 :: s18 :: s19 :: s20 :: s21 :: s22 :: rb) ?_
  refine lf (nth_of hb 10) w hsc B X T F5 (as := [a, b, c']) (lT := lT) (fs := fs) (nD := nD) (nT := nT) (o2 := o2) (vsT := vsT) N5 ?mD5 ?mT5 ?m25 hT d2 hfl (by rw [hfl]; exact (show 3 ≤ 9 by decide)) ?hF5 hmD5 ?_
  case mD5 => rw [hlD]; exact .tail _ (List.mem_append_right _ (List.mem_append_right _ (List.mem_append_right _ (.head _))))
  case mT5 => exact .tail _ (List.mem_append_right _ (List.mem_append_right _ (List.mem_append_right _ (.tail _ (List.mem_append_right _ mT)))))
  case m25 => exact .tail _ (List.mem_append_right _ (List.mem_append_right _ (List.mem_append_right _ (.tail _ (List.mem_append_right _ q2)))))
  case hF5 =>
    intro i v x hv hx
    (refine ex3 (hFS i v x hv hx) ?_; intro f y n9 hP9; refine an3 hP9 ?_; clear hP9; intro y1 y2 y3)
    exact ⟨f, y, n9, y1, .tail _ (List.mem_append_right _ (List.mem_append_right _ (List.mem_append_right _ (.tail _ (List.mem_append_left _ y2))))), by rw [← fig_word hp]; exact y3⟩
  intro lV ys nV h6 k6 m6 hV F6 N6 apV fm6 hmV
  have hmD6 : m6 (Str.ofString "drawn") = some (.ref lD) := (fm6 _ (by decide +kernel)).trans hmD5
  have hmR6 : m6 (Str.ofString "settled") = some (.ref lR) := (fm6 _ (by decide +kernel)).trans hmR
  generalize hlV : (lV, listOf (List.toArray ys) nV) = eV at *
  -- the rest of the law
  have hXE : ∀ vs n lv bl, Apart (([(xL, instObj 110 dL), (dL, dictOf [{ hash := PyData.keyHash w.params (Str.ofString "lineno"), key := Value.str (Str.ofString "lineno") e1, val := Value.int (lv) bl }, { hash := PyData.keyHash w.params (Str.ofString "instream"), key := Value.str (Str.ofString "instream") e2, val := Value.ref xS }, { hash := PyData.keyHash w.params (Str.ofString "whitespace"), key := Value.str (Str.ofString "whitespace") e3, val := Value.str (Str.ofString "\n\t\r ") f3 }, { hash := PyData.keyHash w.params (Str.ofString "pushback"), key := Value.str (Str.ofString "pushback") e4, val := Value.ref pL }] 4), (pL, listOf #[] np5)] : Led) ++ SO vs n) (eV :: eR :: (GL ++ (eD :: (FL ++ TL0)))) := by
    intro vs n lv' bl'
    refine apart_symm (apart_addr (b := ([(xL, instObj 110 dL), (dL, dictOf [{ hash := PyData.keyHash w.params (Str.ofString "lineno"), key := Value.str (Str.ofString "lineno") e1, val := Value.int (lv) bl3 }, { hash := PyData.keyHash w.params (Str.ofString "instream"), key := Value.str (Str.ofString "instream") e2, val := Value.ref xS }, { hash := PyData.keyHash w.params (Str.ofString "whitespace"), key := Value.str (Str.ofString "whitespace") e3, val := Value.str (Str.ofString "\n\t\r ") f3 }, { hash := PyData.keyHash w.params (Str.ofString "pushback"), key := Value.str (Str.ofString "pushback") e4, val := Value.ref pL }] 4), (pL, listOf #[] np5)] : Led) ++ SO vs3 n3) ?_ rfl (by rw [hM, hM]))
    refine (show Apart ([eV] ++ ((eR :: GL) ++ ((eD :: FL) ++ TL0))) _ from apart_app (apart_mono apV sub_refl ?_) (apart_app (apart_mono apR sub_refl ?_) (apart_app (apart_addr (b := ([(xL, instObj 110 dL), (dL, dictOf [{ hash := PyData.keyHash w.params (Str.ofString "lineno"), key := Value.str (Str.ofString "lineno") e1, val := Value.int (lv) bl3 }, { hash := PyData.keyHash w.params (Str.ofString "instream"), key := Value.str (Str.ofString "instream") e2, val := Value.ref xS }, { hash := PyData.keyHash w.params (Str.ofString "whitespace"), key := Value.str (Str.ofString "whitespace") e3, val := Value.str (Str.ofString "\n\t\r ") f3 }, { hash := PyData.keyHash w.params (Str.ofString "pushback"), key := Value.str (Str.ofString "pushback") e4, val := Value.ref pL }] 4), (pL, listOf #[] np)] : Led) ++ SO vs3 n3) (apart_mono apD sub_refl ?_) rfl (by rw [hM, hM])) (apart_symm (hXM _ _ _ _ _)))))
    · exact sub_skip (sub_appR (sub_appI (sub_appL sub_refl) (sub_appR (sub_appL sub_refl))))
    · exact sub_appI (sub_appL sub_refl) (sub_appR (sub_appL sub_refl))
    · exact sub_skip (sub_appL sub_refl)
  refine execs_split [s11] (s12 :: s13 :: s14 :: s15 :: s16 :: s17 :: s18 :: s19 :: s20 :: s21 :: s22 :: rb) ?_
  refine lg (nth_of hb 11) w hsc B X T F6 (e1 := e1) (e2 := e2) (e3 := e3) (e4 := e4) (f3 := f3) (xS := xS) (pL := pL) (ML := fun vs n lv bl => ([(xL, instObj 110 dL), (dL, dictOf [{ hash := PyData.keyHash w.params (Str.ofString "lineno"), key := Value.str (Str.ofString "lineno") e1, val := Value.int (lv) bl }, { hash := PyData.keyHash w.params (Str.ofString "instream"), key := Value.str (Str.ofString "instream") e2, val := Value.ref xS }, { hash := PyData.keyHash w.params (Str.ofString "whitespace"), key := Value.str (Str.ofString "whitespace") e3, val := Value.str (Str.ofString "\n\t\r ") f3 }, { hash := PyData.keyHash w.params (Str.ofString "pushback"), key := Value.str (Str.ofString "pushback") e4, val := Value.ref pL }] 4), (pL, listOf #[] np5)] : Led) ++ SO vs n) (n := n3) (vs := vs3) (lv := lv) (bl := bl3) (rs := rs) (TL := eV :: eR :: (GL ++ (eD :: (FL ++ TL0)))) (hgt np5) (fun _ _ _ _ => .head _) (fun _ _ _ _ => .tail _ (.head _)) hXE (kst_newsOf N6 ?slg) (.tail _ (.tail _ (List.mem_append_right _ (.tail _ (List.mem_append_right _ q5))))) d5 hG hvs3 hlv ?_
  case slg => exact sub_appI (sub_appI (sub_skip (sub_skip (sub_appR (sub_appL sub_refl)))) (sub_skip (sub_skip (sub_appR (sub_appR (sub_appL sub_refl)))))) (sub_cons (.head _) (sub_cons (.tail _ (.head _)) (sub_appI (sub_skip (sub_skip (sub_appL sub_refl))) (sub_skip (sub_skip (sub_appR (sub_appR (sub_appR sub_refl))))))))
  intro h7 k7 F7 N7
  refine execs_split [s12] (s13 :: s14 :: s15 :: s16 :: s17 :: s18 :: s19 :: s20 :: s21 :: s22 :: rb) ?_
  refine lh (nth_of hb 12) w hsc B X T F7 (as := [a, b, c']) (lT := lT) (lV := lV) (lR := lR) (gs := gs) (wv := ys) (nR := nR) (nV := nV) (nT := nT) (o2 := o2) (vsT := vsT) N7 (by rw [hlR]; exact .tail _ (.head _)) (by rw [hlV]; exact .head _) (.tail _ (.tail _ (List.mem_append_right _ (.tail _ (List.mem_append_right _ mT))))) (.tail _ (.tail _ (List.mem_append_right _ (.tail _ (List.mem_append_right _ q2))))) hT d2 hgl (show 3 ≤ 7 by decide) ?hG7 hV hmR6 hmV ?_
  case hG7 =>
    intro i v x hv hx
    (refine ex3 (hGS i v x hv hx) ?_; intro f y n9 hP9; refine an3 hP9 ?_; clear hP9; intro y1 y2 y3)
    exact ⟨f, y, n9, y1, .tail _ (.tail _ (List.mem_append_left _ y2)), y3⟩
  intro h8 k8 F8 N8
  have q6 : (A + 1 + 1 + 1 + 1 + 1 + 1, o6) ∈ TL0 := by rw [hTL0]; k_mem
  have m39 : (39, tabObj #[]) ∈ TL0 := by rw [hTL0]; k_mem
  have m46 : (46, tabObj #[]) ∈ TL0 := by rw [hTL0]; k_mem
  have m116 : (116, tabObj #[rawInt 176, rawInt 4, .ref c]) ∈ TL0 := by rw [hTL0]; k_mem
  -- what is apart from one of the old objects
  have hold : ∀ q ∈ TL0, Apart (eV :: eR :: (GL ++ (eD :: FL))) [q] := fun q hq =>
    show Apart ([eV] ++ ((eR :: GL) ++ (eD :: FL))) [q] from apart_app (apart_mono apV sub_refl (sub_cons (.tail _ (List.mem_append_right _ (List.mem_append_right _ (List.mem_append_right _ (.tail _ (List.mem_append_right _ hq)))))) sub_nil)) (apart_app (apart_mono apR sub_refl (sub_cons (List.mem_append_right _ (List.mem_append_right _ (.tail _ (List.mem_append_right _ hq)))) sub_nil)) (apart_mono apD sub_refl (sub_cons (.tail _ (List.mem_append_right _ hq)) sub_nil)))
  generalize hOB : (eV :: eR :: (GL ++ (eD :: FL)) : Led) = OB at *
  have b1 : eV ∈ OB := by rw [← hOB]; exact .head _
  have b2 : eR ∈ OB := by rw [← hOB]; exact .tail _ (.head _)
  have b3 : eD ∈ OB := by rw [← hOB]; exact .tail _ (.tail _ (List.mem_append_right _ (.head _)))
  have b4 : ∀ p ∈ GL, p ∈ OB := by rw [← hOB]; exact sub_skip (sub_skip (sub_appL sub_refl))
  have b5 : ∀ p ∈ FL, p ∈ OB := by rw [← hOB]; exact sub_skip (sub_skip (sub_appR (sub_skip sub_refl)))
  have b6 : ∀ p ∈ OB, p ∈ eV :: eR :: (GL ++ (eD :: (FL ++ TL0))) := by rw [← hOB]; exact sub_cons (.head _) (sub_cons (.tail _ (.head _)) (sub_appI (sub_skip (sub_skip (sub_appL sub_refl))) (sub_skip (sub_skip (sub_appR (sub_cons (.head _) (sub_skip (sub_appL sub_refl))))))))
  have b7 : ∀ p ∈ TL0, p ∈ eV :: eR :: (GL ++ (eD :: (FL ++ TL0))) := sub_skip (sub_skip (sub_appR (sub_skip (sub_appR sub_refl))))
  generalize hTLd : [(lT, listOf (List.toArray vsT) nT), (A + 1 + 1, o2), (116, tabObj #[rawInt 176, rawInt 4, .ref c])] = TLd at *
  have hTd : TLd.map (·.1) = [lT, A + 1 + 1, 116] := by rw [← hTLd]; rfl
  have c1 : ∀ p ∈ TLd, p ∈ TL0 := by rw [← hTLd]; exact sub_cons mT (sub_cons q2 (sub_cons m116 sub_nil))
  have c2 : (lT, listOf (List.toArray vsT) nT) ∈ TLd := by rw [← hTLd]; exact .head _
  have c3 : (A + 1 + 1, o2) ∈ TLd := by rw [← hTLd]; exact .tail _ (.head _)
  have c4 : (116, tabObj #[rawInt 176, rawInt 4, .ref c]) ∈ TLd := by rw [← hTLd]; exact .tail _ (.tail _ (.head _))
  have a46 : Apart TLd [(46, tabObj #[])] := apart_of_aptA (by rw [hTd]; exact (show AptA [lT, A + 1 + 1, 116] [46] by walk_at "m aptA"))
  have a39 : Apart TLd [(39, tabObj #[])] := apart_of_aptA (by rw [hTd]; exact (show AptA [lT, A + 1 + 1, 116] [39] by walk_at "m aptA"))
  have a6 : Apart TLd [(A + 1 + 1 + 1 + 1 + 1 + 1, o6)] := apart_of_aptA (by rw [hTd]; exact (show AptA [lT, A + 1 + 1, 116] [A + 1 + 1 + 1 + 1 + 1 + 1] by walk_at "m aptA"))
  have x69 : Apart [(A + 1 + 1 + 1 + 1 + 1 + 1, o6), (39, tabObj #[])] [(46, tabObj #[])] := apart_of_aptA (show AptA [A + 1 + 1 + 1 + 1 + 1 + 1, 39] [46] by walk_at "m aptA")
  have x39 : Apart [(A + 1 + 1 + 1 + 1 + 1 + 1, o6)] [(39, tabObj #[])] := apart_of_aptA (show AptA [A + 1 + 1 + 1 + 1 + 1 + 1] [39] by walk_at "m aptA")
  refine execs_split [s13, s14] (s15 :: s16 :: s17 :: s18 :: s19 :: s20 :: s21 :: s22 :: rb) ?_
  refine li (nth_of hb 13) (nth_of hb 14) w hsc B X T F8 (as := [a, b, c']) (lV := lV) (lD := lD) (fs := fs) (wv := ys) (nD := nD) (nV := nV) (TL := OB ++ (TLd ++ [(A + 1 + 1 + 1 + 1 + 1 + 1, o6), (39, tabObj #[])])) (kst_newsOf N8 ?sli) (List.mem_append_left _ (by rw [hlD]; exact b3)) (List.mem_append_left _ (by rw [hlV]; exact b1)) ?ali hfl (show 3 ≤ 9 by decide) ?hF8 hV ((fm6 _ (by decide +kernel)).trans hmD5) hmV ?_
  case sli => exact sub_appI (sub_appI b6 (sub_appI (fun p hp => b7 p (c1 p hp)) (sub_cons (b7 _ q6) (sub_cons (b7 _ m39) sub_nil)))) (sub_cons (b7 _ m46) sub_nil)
  case ali => exact apart_symm (apart_app (hold _ m46) (apart_app a46 x69))
  case hF8 =>
    intro i v x hv hx
    (refine ex3 (hFS i v x hv hx) ?_; intro f y n9 hP9; refine an3 hP9 ?_; clear hP9; intro y1 y2 y3)
    exact ⟨f, y, n9, y1, List.mem_append_left _ (b5 _ y2), by rw [← fig_word hp]; exact y3⟩
  intro lP lQ ps qs QL tab h9 k9 m9 hps hqs hql htab F9 N9 ap9 apQ fm9 hmP hmQ
  (refine ex3 (ints3v hps) ?_; intro p0 p1 p2 hP9; revert hP9; rintro rfl)
  (refine ex3 (len3 hql) ?_; intro w0 w1' w2 hP9; revert hP9; rintro rfl)
  (refine ex4 (hqs 0 _ _ rfl rfl) ?_; intro q0 ta0 tb0 nq0 hP9; refine an2 hP9 ?_; clear hP9; rintro rfl z0)
  (refine ex4 (hqs 1 _ _ rfl rfl) ?_; intro q1 ta1 tb1 nq1 hP9; refine an2 hP9 ?_; clear hP9; rintro rfl z1)
  (refine ex4 (hqs 2 _ _ rfl rfl) ?_; intro q2' ta2 tb2 nq2 hP9; refine an2 hP9 ?_; clear hP9; rintro rfl z2)
  have hQ1 : ∀ q ∈ OB ++ (TLd ++ [(A + 1 + 1 + 1 + 1 + 1 + 1, o6), (39, tabObj #[])]), Apart ((lQ, lst [.ref q0, .ref q1, .ref q2']) :: (QL ++ [(lP, lst [.int (pk (bitsW a)) p0, .int (pk (bitsW b)) p1, .int (pk (bitsW c')) p2])])) [q] := fun q hq => apart_mono apQ sub_refl (sub_cons hq sub_nil)
  refine execs_split [s15, s16, s17] (s18 :: s19 :: s20 :: s21 :: s22 :: rb) ?_
  refine lj (nth_of hb 15) (nth_of hb 16) (nth_of hb 17) w hsc B X T F9 (lT := lT) (lP := lP) (lQ := lQ) (q0 := q0) (q1 := q1) (q2 := q2') (a0 := a) (a1' := b) (a2' := c') (p0 := p0) (p1 := p1) (p2 := p2) (tabI := [(39, tabObj #[])]) (tabD := tab) (TL := QL ++ (OB ++ (TLd ++ [(A + 1 + 1 + 1 + 1 + 1 + 1, o6)]))) (Dv := Dof a b) (List.mem_append_left _ z0) (List.mem_append_left _ z1) (List.mem_append_right _ (List.mem_append_right _ (List.mem_append_left _ c2))) (List.mem_append_right _ (List.mem_append_right _ (List.mem_append_left _ c3))) (kst_newsOf N9 ?slj) (.inl rfl) htab ?hIDj ?hIEj ?hDEj hT d2 hmP hmQ (law_D0 a b) (D_ok a b).2 (law_D1 a b) (law_D2 a b) ?_
  case slj => exact sub_appI (sub_cons (.tail _ (List.mem_append_right _ (.head _))) (sub_cons (.head _) (sub_appI (sub_skip (sub_appL sub_refl)) (sub_appI (sub_skip (sub_appR (sub_skip (sub_appL (sub_appL sub_refl))))) (sub_appI (sub_skip (sub_appR (sub_skip (sub_appL (sub_appR (sub_appL sub_refl)))))) (sub_cons (.tail _ (List.mem_append_right _ (.tail _ (List.mem_append_left _ (List.mem_append_right _ (List.mem_append_right _ (.head _))))))) sub_nil)))))) (sub_appI (sub_cons (.tail _ (List.mem_append_right _ (.tail _ (List.mem_append_left _ (List.mem_append_right _ (List.mem_append_right _ (.tail _ (.head _)))))))) sub_nil) (sub_skip (sub_appR (sub_skip (sub_appR sub_refl)))))
  case hIDj => exact apart_symm (apart_mono ap9 sub_refl (sub_cons (.tail _ (List.mem_append_right _ (.tail _ (List.mem_append_right _ (List.mem_append_right _ (.tail _ (.head _))))))) sub_nil))
  case hIEj =>
    refine apart_symm (show Apart (((lP, lst [.int (pk (bitsW a)) p0, .int (pk (bitsW b)) p1, .int (pk (bitsW c')) p2]) :: (lQ, lst [.ref q0, .ref q1, .ref q2']) :: QL) ++ (OB ++ (TLd ++ [(A + 1 + 1 + 1 + 1 + 1 + 1, o6)]))) _ from apart_app (apart_mono (hQ1 _ (List.mem_append_right _ (List.mem_append_right _ (.tail _ (.head _))))) ?_ sub_refl) (apart_app (hold _ m39) (apart_app a39 x39)))
    exact sub_cons (.tail _ (List.mem_append_right _ (.head _))) (sub_cons (.head _) (sub_skip (sub_appL sub_refl)))
  case hDEj => exact apart_mono ap9 sub_refl (sub_cons (.tail _ (List.mem_append_right _ (.head _))) (sub_cons (.head _) (sub_appI (sub_skip (sub_appL sub_refl)) (sub_appI (sub_skip (sub_appR (sub_skip (sub_appL sub_refl)))) (sub_appI (sub_skip (sub_appR (sub_skip (sub_appR (sub_appL sub_refl))))) (sub_cons (.tail _ (List.mem_append_right _ (.tail _ (List.mem_append_right _ (List.mem_append_right _ (.head _)))))) sub_nil))))))
  intro lU t7 t8 t6 nU tabI2 tabD2 h10 k10 m10 hI2 hD2 hID2 F10 N10 ap10 fm10 hmDb hmU apU
  generalize hlU : (lU, tupOf [.int (Dof a b : Int) t7, .int (((Dof a b + 1) * 196418 / 317811 : Nat) : Int) t8] nU) = eU at *
  generalize hlP : (lP, lst [.int (pk (bitsW a)) p0, .int (pk (bitsW b)) p1, .int (pk (bitsW c')) p2]) = eP at *
  generalize hlQ : (lQ, lst [.ref q0, .ref q1, .ref q2']) = eQ at *
  have hA6 : Apart ((eU :: eP :: eQ :: (QL ++ (OB ++ TLd))) ++ (tabI2 ++ tabD2)) [(A + 1 + 1 + 1 + 1 + 1 + 1, o6)] := by
    refine apart_app (show Apart ([eU] ++ ((eP :: eQ :: QL) ++ (OB ++ TLd))) _ from apart_app (apart_mono apU sub_refl (sub_cons (.tail _ (.tail _ (List.mem_append_right _ (List.mem_append_right _ (List.mem_append_right _ (.head _)))))) sub_nil)) (apart_app (apart_mono (hQ1 _ (List.mem_append_right _ (List.mem_append_right _ (.head _)))) ?_ sub_refl) (apart_app (hold _ q6) a6))) (apart_mono ap10 sub_refl (sub_cons (.tail _ (.tail _ (.tail _ (List.mem_append_right _ (List.mem_append_right _ (List.mem_append_right _ (.head _))))))) sub_nil))
    exact sub_cons (.tail _ (List.mem_append_right _ (.head _))) (sub_cons (.head _) (sub_skip (sub_appL sub_refl)))
  refine execs_split [s18] (s19 :: s20 :: s21 :: s22 :: rb) ?_
  refine lk1 (nth_of hb 18) w hsc B X T F10 (o2 := o2) (o6 := o6) (lT := lT) (vsT := vsT) (nT := nT) (Dv := Dof a b) (TL := (eU :: eP :: eQ :: (QL ++ (OB ++ TLd))) ++ (tabI2 ++ tabD2)) (kst_newsOf N10 ?sk1) (List.mem_append_left _ (.tail _ (.tail _ (.tail _ (List.mem_append_right _ (List.mem_append_right _ c2)))))) (List.mem_append_left _ (.tail _ (.tail _ (.tail _ (List.mem_append_right _ (List.mem_append_right _ c3)))))) hT d2 d6 hmDb (D_ok a b).2 hA.1 (fun p hp => hA6 p hp _ (.head _)) ?_
  case sk1 => exact sub_cons (List.mem_append_left _ (.tail _ (.tail _ (.tail _ (List.mem_append_right _ (List.mem_append_right _ (List.mem_append_right _ (.head _)))))))) (sub_appI (sub_appL (sub_cons (.head _) (sub_cons (.tail _ (.head _)) (sub_cons (.tail _ (.tail _ (.head _))) (sub_skip (sub_skip (sub_skip (sub_appI (sub_appL sub_refl) (sub_appR (sub_appI (sub_appL sub_refl) (sub_appR (sub_appL sub_refl)))))))))))) (sub_appR sub_refl))
  intro lZ us nZ o6' h11 k11 hus d6' F11 N11 apZ
  (refine ex3 (len3 hgl) ?_; intro v0 v1 v2 hP9; revert hP9; rintro rfl)
  (refine ex3 (hGS 0 _ _ rfl rfl) ?_; intro g0 y0 r0 hP9; refine an3 hP9 ?_; clear hP9; rintro rfl x0 hy0)
  (refine ex3 (hGS 1 _ _ rfl rfl) ?_; intro g1 y1 r1 hP9; refine an3 hP9 ?_; clear hP9; rintro rfl x1 hy1)
  (refine ex3 (hGS 2 _ _ rfl rfl) ?_; intro g2 y2 r2 hP9; refine an3 hP9 ?_; clear hP9; rintro rfl x2 hy2)
  refine execs_split [s19, s20, s21, s22] rb ?_
  refine lk2 (nth_of hb 19) (nth_of hb 20) (nth_of hb 21) (nth_of hb 22) w hsc B X T F11 (o2 := o2) (o6 := o6') (lT := lT) (lR := lR) (g0 := g0) (g1 := g1) (g2 := g2) (lP := lP) (lQ := lQ) (q0 := q0) (q1 := q1) (q2 := q2') (vsT := vsT) (y2 := y2) (nT := nT) (nR := nR) (m2 := r2) (nq2 := nq2) (p0 := p0) (p1 := p1) (p2 := p2) (ta2 := ta2) (tb2 := tb2) (a0 := a) (a1' := b) (a2' := c') (c := c) (lU := lU) (lZ := lZ) (t7 := t7) (t8 := t8) (nU := nU) (nZ := nZ) (us := us) (tabI := tabI2) (tabD := tabD2) (Dv := Dof a b) (TL := (A + 1 + 1 + 1 + 1 + 1 + 1, o6') :: eU :: (QL ++ (GL ++ TLd))) (.head _) (by rw [hlU]; exact .tail _ (.head _)) (.tail _ (.tail _ (List.mem_append_left _ z2))) (.tail _ (.tail _ (List.mem_append_right _ (List.mem_append_left _ x2)))) (.tail _ (.tail _ (List.mem_append_right _ (List.mem_append_right _ c2)))) (.tail _ (.tail _ (List.mem_append_right _ (List.mem_append_right _ c3)))) (.tail _ (.tail _ (List.mem_append_right _ (List.mem_append_right _ c4)))) ?Nk2 ?Ek2 hI2 hD2 hID2 hT d2 d6' hus hy2 ((fm10 _ (by decide +kernel) (by decide +kernel)).trans hmP) ((fm10 _ (by decide +kernel) (by decide +kernel)).trans hmQ) ((fm10 _ (by decide +kernel) (by decide +kernel)).trans ((fm9 _ (by decide +kernel) (by decide +kernel)).trans hmR6)) hmU (Tv := Tof a b c') (law_x1 a b c') (law_x1b a b c') (law_T1 a b c') (law_T2 a b c') (D_ok a b).2 (law_Tb a b c') (law_R1 a b c') (law_R2 a b c') (law_Z01 a b) (fun h' tk' m' F' G' => K h' tk' m' F' G')
  case Nk2 =>
    rw [hlP, hlQ]
    refine kst_newsOf N11 (sub_appI ?_ (sub_skip (sub_skip (sub_appR sub_refl))))
    refine sub_cons (.tail _ (.tail _ (.tail _ (.head _)))) (sub_cons (.tail _ (.tail _ (.tail _ (.tail _ (.head _))))) (sub_cons (.tail _ (.tail _ (List.mem_append_left _ (.tail _ (.tail _ (.tail _ (List.mem_append_right _ (List.mem_append_left _ ?_)))))))) (sub_cons (.tail _ (.head _)) (sub_cons (.head _) (sub_cons (.tail _ (.tail _ (.head _))) (sub_skip (sub_skip (sub_appL (sub_skip (sub_skip (sub_skip (sub_appI (sub_appL sub_refl) (sub_appI (sub_appR (sub_appL b4)) (sub_appR (sub_appR sub_refl))))))))))))))) 
    rw [show (lR, listOf #[.ref g0, .ref g1, .ref g2] nR) = eR from hlR]; exact b2
  case Ek2 =>
    rw [hlP, hlQ]
    refine (show Apart (tabI2 ++ tabD2) ([eP, eQ, (lR, listOf #[.ref g0, .ref g1, .ref g2] nR)] ++ ([(lZ, listOf (List.toArray us) nZ)] ++ ([(A + 1 + 1 + 1 + 1 + 1 + 1, o6')] ++ (eU :: (QL ++ (GL ++ TLd)))))) from apart_two (apart_mono ap10 sub_refl ?_) (apart_two (apart_symm (apart_mono apZ sub_refl (sub_appR sub_refl))) (apart_two (apart_addr (b := [(A + 1 + 1 + 1 + 1 + 1 + 1, o6)]) (apart_mono ap10 sub_refl (sub_cons (.tail _ (.tail _ (.tail _ (List.mem_append_right _ (List.mem_append_right _ (List.mem_append_right _ (.head _))))))) sub_nil)) rfl rfl) (apart_mono ap10 sub_refl ?_))))
    · refine sub_cons (.tail _ (.head _)) (sub_cons (.tail _ (.tail _ (.head _))) (sub_cons (.tail _ (.tail _ (.tail _ (List.mem_append_right _ (List.mem_append_left _ ?_))))) sub_nil))
      rw [show (lR, listOf #[.ref g0, .ref g1, .ref g2] nR) = eR from hlR]; exact b2
    · exact sub_cons (.head _) (sub_skip (sub_skip (sub_skip (sub_appI (sub_appL sub_refl) (sub_appI (sub_appR (sub_appL b4)) (sub_appR (sub_appR (sub_appL sub_refl))))))))
end
theorem wOff_S_fin : True := by
  w_top off
  trivial
section
theorem fin : PySem.Challenge.rw_sw0064_01.Holds := Mine.hd (by
  k_go0
  rename_i hI hr hc1 hc2 hD h1 tk1 c6 c5 c4 c3 c2 c1 e6 e5 e4 e3 e2 e1 X0 X' T' K' F' ch1 ch2 N' l0
  refine law_all _ rfl K' X' T' F' N' (e1.trans rfl) (e2.trans rfl) (e3.trans rfl) (e4.trans rfl) (e5.trans rfl) (e6.trans rfl) lifted hI (by omega) l0 ?_
  intro h' tk' m' F G
  refine ⟨?_, G⟩
  refine goodW_bool F (by assumption) (raisesW_false (by intro ct h; cases h)) ?_
  refine' postW_of ?zs ?zv ?ze
  (case zs => o_shape)
  (case zv => wtm_val)
  (case ze => w_fin))
end
end
end
end
end
end Mine
end
theorem PySem.Challenge.cw_sw0064_01_holds : PySem.Challenge.rw_sw0064_01.Holds := by
  exact Mine.fin
